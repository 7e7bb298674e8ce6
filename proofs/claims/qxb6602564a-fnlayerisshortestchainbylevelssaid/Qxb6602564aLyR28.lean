/-
  layer's statement 'n, takes, mv := ..': its operations come in whatever order.
-/
import Derived.Test.Qxb6602564aLyGiv
import Derived.Test.Qxb6602564aLyOrd
import Derived.Deep.CutRange
namespace Go.Proofs.Qxb6602564a
open Go.RowKit
set_option linter.unusedVariables false
def findReg (n : Nat) : Code → Option Code
  | .region k ops d => if k = n then some (.region k ops d) else none
  | .block _ c => findReg n c
  | .loop c => findReg n c
  | .scope c => findReg n c
  | .seq a b => match findReg n a with
    | some c => some c
    | none => findReg n b
  | .cond _ a b => match findReg n a with
    | some c => some c
    | none => findReg n b
  | _ => none
theorem ready_allB {md : Region.Mode} {ops : Array Oper} {listed : Array Bool} (hs : listed.size = ops.size) (hdag : (List.range ops.size).all (fun j => ((ops[j]?).map (fun o => o.after.all (fun e => !Region.binds md e || decide (e.on < j)))).getD false) = true) (hr : Region.ready md ops listed = []) : ∀ j, j < ops.size → listed.getD j false = true := by
  intro j
  induction j using Nat.strongRecOn with
  | ind j ih =>
    intro hj
    have hjl : j < listed.size := by omega
    cases hb : listed[j] with
    | true => simp [Array.getD_eq_getD_getElem?, hjl, hb]
    | false =>
      exfalso
      have hmem : j ∈ Region.ready md ops listed := by
        unfold Region.ready
        refine List.mem_filter.2 ⟨List.mem_range.2 hj, ?_⟩
        have h1 := List.all_eq_true.1 hdag j (List.mem_range.2 hj)
        rw [Array.getElem?_eq_getElem hj] at h1 ⊢
        simp only [Option.map_some, Option.getD_some] at h1 ⊢
        rw [Bool.and_eq_true]
        refine ⟨by simp [Array.getD_eq_getD_getElem?, hjl, hb], ?_⟩
        rw [Array.all_eq_true'] at h1 ⊢
        intro e he
        have h2 := h1 e he
        cases hbd : Region.binds md e with
        | false => simp
        | true =>
          have h3 : e.on < j := by simpa [hbd] using h2
          have h4 := ih e.on h3 (by omega)
          simp [h4]
      rw [hr] at hmem
      cases hmem
theorem wpOp_runB {P : Program} {ops : Array Oper} {Q : Exit → Act → World → Prop} {i : Nat} {o : Oper} {K : Act → World → Prop} {a : Act} {w w' : World} {v : Value} (ho : ops[i]? = some o) (hg : o.guard = none) (hrun : (execOp a.eval o).run P w = .ok (.value v) w') (hK : K (a.put o.dst v) w') : wpOp P ops Q i K a w := by
  unfold wpOp
  have hw : Region.wanted o (yielded ops a.tmps) = true := by simp [Region.wanted, hg]
  simp only [ho, hw, if_true]
  refine .inl ?_
  unfold Oper.wp
  rw [hrun]
  exact hK
theorem wpOp_skipB {P : Program} {ops : Array Oper} {Q : Exit → Act → World → Prop} {i : Nat} {o : Oper} {K : Act → World → Prop} {a : Act} {w w' : World} (ho : ops[i]? = some o) (hg : o.guard = none) (hrun : (execOp a.eval o).run P w = .ok .skip w') (hK : K (a.put o.dst undef) w') : wpOp P ops Q i K a w := by
  unfold wpOp
  have hw : Region.wanted o (yielded ops a.tmps) = true := by simp [Region.wanted, hg]
  simp only [ho, hw, if_true]
  refine .inl ?_
  unfold Oper.wp
  rw [hrun]
  exact hK
theorem wpOp_callB {P : Program} {ops : Array Oper} {Q : Exit → Act → World → Prop} {i : Nat} {o : Oper} {K : Act → World → Prop} {a : Act} {w : World} {g : FuncId} {args : Array Value} {R : Ending → World → Prop} (ho : ops[i]? = some o) (hg : o.guard = none) (hrun : (execOp a.eval o).run P w = .ok (.enter g args) w) (hC : Calls P g args w R) (hK : ∀ e w'', R e w'' → ∃ v, e = .returned v ∧ K (a.put o.dst v) w'') : wpOp P ops Q i K a w := by
  unfold wpOp
  have hw : Region.wanted o (yielded ops a.tmps) = true := by simp [Region.wanted, hg]
  simp only [ho, hw, if_true]
  refine .inl ?_
  unfold Oper.wp
  rw [hrun, Oper.upon_enter]
  refine hC.mono ?_
  intro e w'' h
  obtain ⟨v, rfl, h2⟩ := hK e w'' h
  exact h2
def p32 (pv tv : Int) : Nat → Value
  | 0 => .int .i32 pv
  | _ => .int .i32 tv
def fr28 (c f : Nat → Value) : Act := ⟨#[c 0, c 1, c 2, c 3, c 4, c 5, c 6, c 7, c 8, c 9, c 10, c 11, c 12, c 13, c 14, c 15, c 16, c 17, c 18, f 19, f 20, f 21, c 22, c 23, c 24, c 25, c 26, c 27, c 28, c 29, c 30, c 31, c 32, c 33, c 34, c 35, c 36, c 37, c 38, c 39, c 40, c 41, c 42, c 43, c 44, c 45, c 46, c 47, c 48, c 49, c 50, c 51, c 52, c 53, c 54, c 55, c 56, c 57, c 58, c 59, c 60, c 61, c 62, c 63, c 64, c 65, c 66, c 67, c 68, c 69, c 70, c 71, c 72, c 73, c 74, c 75, c 76, c 77, c 78, c 79, c 80, c 81, c 82, c 83, c 84, c 85, c 86, c 87, c 88, c 89, c 90, c 91, c 92, c 93, c 94, c 95, c 96, c 97, c 98, c 99, c 100, c 101, c 102, c 103, c 104, c 105, c 106, c 107, c 108, c 109, c 110, c 111, c 112, c 113, c 114, c 115, c 116, c 117, c 118, c 119, c 120, c 121, c 122, c 123, c 124, c 125, c 126, c 127, c 128, c 129, c 130, c 131, c 132, c 133, c 134, c 135, c 136, c 137, c 138, c 139, c 140, c 141, c 142, c 143, c 144, c 145, c 146, c 147, c 148, c 149, c 150, c 151, c 152, c 153, c 154, c 155, c 156, c 157, c 158, c 159, c 160, c 161, c 162, c 163, c 164, c 165, c 166, c 167, c 168, c 169, c 170, c 171, c 172, c 173, c 174, f 175, f 176, f 177, f 178, f 179, f 180, f 181, f 182, f 183, f 184, f 185, f 186, f 187, f 188, c 189, c 190, c 191, c 192, c 193, c 194, c 195, c 196, c 197, c 198, c 199, c 200, c 201, c 202, c 203, c 204, c 205, c 206, c 207, c 208, c 209, c 210, c 211, c 212, c 213, c 214, c 215, c 216, c 217, c 218, c 219, c 220, c 221, c 222, c 223, c 224, c 225, c 226, c 227, c 228, c 229, c 230, c 231, c 232, c 233, c 234, c 235, c 236, c 237, c 238, c 239, c 240, c 241, c 242, c 243, c 244, c 245, c 246, c 247, c 248, c 249, c 250, c 251, c 252, c 253, c 254, c 255, c 256, c 257, c 258, c 259, c 260, c 261, c 262, c 263, c 264, c 265, c 266, c 267, c 268, c 269], []⟩
def dst28 (j : Nat) : Nat := if j = 14 then 21 else if j = 15 then 19 else if j = 16 then 20 else 175 + j
def D28 (m : M) (cx : Cx) (b1 o1 v n : Nat) (pv : Int) (w0 : World) (j : Nat) (x : Value) (w : World) : Prop :=
  match j with
  | 0 => x = .pointer (some ⟨cx.mb, 0, none⟩)
  | 1 => x = .pointer (some ⟨cx.mb, 0, none⟩)
  | 2 => x = .pointer (some ⟨cx.mb, 1, none⟩)
  | 3 => x = .slice m.a1 m.n1 m.c1
  | 4 => x = .int .i32 (v : Int)
  | 5 => x = .pointer (some ⟨b1, o1 + v, none⟩)
  | 6 => x = .int .i32 (n : Int)
  | 7 => x = .pointer (some ⟨cx.mb, 0, none⟩)
  | 8 => x = .int .i32 (v : Int)
  | 9 => x = .int .i64 (v : Int)
  | 10 => x = .bool (take m v)
  | 11 => x = .int .i32 pv
  | 12 => x = .int .i32 (v : Int)
  | 13 => x = .agg #[.int .i32 pv, .int .i32 (v : Int)]
  | 15 => x = .int .i32 (n : Int)
  | 14 => ∃ bx g, x = .pointer (some ⟨bx, 0, none⟩) ∧ w0.heap.size ≤ bx ∧ Row w bx 77 2 g
  | _ => x = .bool (take m v)
theorem D28.up {m : M} {cx : Cx} {b1 o1 v n : Nat} {pv : Int} {w0 w w' : World} {j : Nat} {x : Value} (h : D28 m cx b1 o1 v n pv w0 j x w) (O : Only [] w w') : D28 m cx b1 o1 v n pv w0 j x w' := by
  unfold D28 at h ⊢
  split at h
  all_goals first
    | exact h
    | (obtain ⟨b, g, e, z, r⟩ := h; exact ⟨b, g, e, z, r.keep O (by simp)⟩)
def I28 (m : M) (cx : Cx) (b1 o1 v n : Nat) (pv : Int) (c : Nat → Value) (w0 : World) (listed : Array Bool) (a : Act) (w : World) : Prop :=
  listed.size = 18 ∧ ∃ f : Nat → Value, a = fr28 c f ∧ Only [] w0 w ∧ (∀ j, j < 17 → listed.getD j false = true → D28 m cx b1 o1 v n pv w0 j (f (dst28 j)) w) ∧
    (listed.getD 17 false = true → (∀ j, j < 18 → listed.getD j false = true) ∧ ∃ bx, f 21 = .pointer (some ⟨bx, 0, none⟩) ∧ w0.heap.size ≤ bx ∧ Row w bx 77 2 (p32 pv (v : Int)))
theorem I28.next {m : M} {cx : Cx} {b1 o1 v n : Nat} {pv : Int} {c : Nat → Value} {w0 w w' : World} {listed : Array Bool} {f : Nat → Value} {i : Nat} {x : Value} {a' : Act} (hi : i < 17) (hls : listed.size = 18) (O : Only [] w0 w) (hD : ∀ j, j < 17 → listed.getD j false = true → D28 m cx b1 o1 v n pv w0 j (f (dst28 j)) w)
    (h17 : listed.getD 17 false = false) (O' : Only [] w w') (ha : a' = fr28 c (upd f (dst28 i) x)) (hv : D28 m cx b1 o1 v n pv w0 i x w') : I28 m cx b1 o1 v n pv c w0 (listed.setIfInBounds i true) a' w' := by
  have hinj : ∀ j, j < 17 → j ≠ i → dst28 j ≠ dst28 i := fun j hj hne => by unfold dst28; (repeat' split) <;> omega
  refine ⟨by simpa using hls, upd f (dst28 i) x, ha, O.trans O', fun j hj hl => ?_, fun hl => ?_⟩
  · by_cases e : j = i
    · subst e; rw [upd_at]; exact hv
    · rw [upd_ne _ _ (hinj j hj e)]
      refine (hD j hj ?_).up O'
      simpa [Array.getD_eq_getD_getElem?, Array.getElem?_setIfInBounds_ne (Ne.symm e)] using hl
  · exfalso
    have e : i ≠ 17 := by omega
    have : listed.getD 17 false = true := by simpa [Array.getD_eq_getD_getElem?, Array.getElem?_setIfInBounds_ne e] using hl
    rw [h17] at this; cases this
set_option maxRecDepth 1000000 in
set_option maxHeartbeats 8000000 in
theorem reg28 (m : M) (cx : Cx) (b1 o1 v n : Nat) (pv : Int) (c : Nat → Value) (Q : Exit → Act → World → Prop) (w : World) (hv : v < m.n1) (hn1 : m.n1 ≤ 262144)
    (hc0 : c 0 = .pointer (some ⟨cx.mb, 0, none⟩)) (hc16 : c 16 = .int .i32 pv) (hc18 : c 18 = .int .i32 (v : Int))
    (ce1 : ∀ w', Only [] w w' → w'.cell? ⟨cx.mb, 1, none⟩ = some (.slice m.a1 m.n1 m.c1))
    (ix1 : ∀ w' : World, (Instr.indexAt 34 (.slice m.a1 m.n1 m.c1) (.int .i32 (v : Int))).run Try.prog w' = .ok (.pointer (some ⟨b1, o1 + v, none⟩)) w')
    (d1 : ∀ w', Only [] w w' → w'.cell? ⟨b1, o1 + v, none⟩ = some (.int .i32 (n : Int)))
    (T59 : ∀ w', Only [] w w' → Calls Try.prog 59 #[.pointer (some ⟨cx.mb, 0, none⟩), .int .i64 (v : Int)] w' fun e w'' => RetV (take m v) w' e w'')
    (hQ : ∀ w' bx f, Only [] w w' → w.heap.size ≤ bx → Row w' bx 77 2 (p32 pv (v : Int)) → f 19 = .int .i32 (n : Int) → f 20 = .bool (take m v) → f 21 = .pointer (some ⟨bx, 0, none⟩) → Q .normal (fr28 c f) w') :
    Code.wp Try.prog (((Try.f52.body.bind (findReg 28)).getD .skip)) Q (fr28 c c) w := by
  conv => arg 2; whnf
  refine wp_region_any (by kernel_rfl) ?_
  refine wpAny_inv (I28 m cx b1 o1 v n pv c w) ?_ ?_ _ _ _ _ ?_ ?_
  · intro listed a w1 hI i hi
    obtain ⟨hls, f, rfl, O, hD, h17⟩ := hI
    have hrf := ready_false hi
    have hi18 : i < 18 := by
      have := (List.mem_filter.1 hi).1
      simpa using this
    have hr := (List.mem_filter.1 hi).2
    have h17 : listed.getD 17 false = false := by
      cases e : listed.getD 17 false with
      | false => rfl
      | true =>
        have := (h17 e).1 i hi18
        rw [Array.getD_eq_getD_getElem?, hrf] at this
        cases this
    clear hi hrf
    have ce1 := ce1 w1 O
    have d1 := d1 w1 O
    obtain rfl | rfl | rfl | rfl | rfl | rfl | rfl | rfl | rfl | rfl | rfl | rfl | rfl | rfl | rfl | rfl | rfl | rfl : i = 0 ∨ i = 1 ∨ i = 2 ∨ i = 3 ∨ i = 4 ∨ i = 5 ∨ i = 6 ∨ i = 7 ∨ i = 8 ∨ i = 9 ∨ i = 10 ∨ i = 11 ∨ i = 12 ∨ i = 13 ∨ i = 14 ∨ i = 15 ∨ i = 16 ∨ i = 17 := by omega
    · skip
      refine wpOp_runB (v := .pointer (some ⟨cx.mb, 0, none⟩)) (w' := w1) rfl rfl ?_ ?_
      · simp only [fr28]
        clear hD h17
        go_simp
      · exact I28.next (by omega) hls O hD h17 (Only.refl _ _) rfl rfl
    · skip
      have q0 : f 175 = .pointer (some ⟨cx.mb, 0, none⟩) := (hD 0 (by omega) (by have h := hr; simp [Region.binds] at h; simp [h]))
      refine wpOp_runB (v := .pointer (some ⟨cx.mb, 0, none⟩)) (w' := w1) rfl rfl ?_ ?_
      · simp only [fr28]
        clear hD h17
        go_simp
      · exact I28.next (by omega) hls O hD h17 (Only.refl _ _) rfl rfl
    · skip
      have q1 : f 176 = .pointer (some ⟨cx.mb, 0, none⟩) := (hD 1 (by omega) (by have h := hr; simp [Region.binds] at h; simp [h]))
      refine wpOp_runB (v := .pointer (some ⟨cx.mb, 1, none⟩)) (w' := w1) rfl rfl ?_ ?_
      · simp only [fr28]
        clear hD h17
        go_simp
      · exact I28.next (by omega) hls O hD h17 (Only.refl _ _) rfl rfl
    · skip
      have q2 : f 177 = .pointer (some ⟨cx.mb, 1, none⟩) := (hD 2 (by omega) (by have h := hr; simp [Region.binds] at h; simp [h]))
      refine wpOp_runB (v := .slice m.a1 m.n1 m.c1) (w' := w1) rfl rfl ?_ ?_
      · simp only [fr28]
        clear hD h17
        go_simp
      · exact I28.next (by omega) hls O hD h17 (Only.refl _ _) rfl rfl
    · skip
      refine wpOp_runB (v := .int .i32 (v : Int)) (w' := w1) rfl rfl ?_ ?_
      · simp only [fr28]
        clear hD h17
        go_simp
      · exact I28.next (by omega) hls O hD h17 (Only.refl _ _) rfl rfl
    · skip
      have q3 : f 178 = .slice m.a1 m.n1 m.c1 := (hD 3 (by omega) (by have h := hr; simp [Region.binds] at h; simp [h]))
      have q4 : f 179 = .int .i32 (v : Int) := (hD 4 (by omega) (by have h := hr; simp [Region.binds] at h; simp [h]))
      refine wpOp_runB (v := .pointer (some ⟨b1, o1 + v, none⟩)) (w' := w1) rfl rfl ?_ ?_
      · simp only [fr28]
        clear hD h17
        go_simp
      · exact I28.next (by omega) hls O hD h17 (Only.refl _ _) rfl rfl
    · skip
      have q5 : f 180 = .pointer (some ⟨b1, o1 + v, none⟩) := (hD 5 (by omega) (by have h := hr; simp [Region.binds] at h; simp [h]))
      refine wpOp_runB (v := .int .i32 (n : Int)) (w' := w1) rfl rfl ?_ ?_
      · simp only [fr28]
        clear hD h17
        go_simp
      · exact I28.next (by omega) hls O hD h17 (Only.refl _ _) rfl rfl
    · skip
      refine wpOp_runB (v := .pointer (some ⟨cx.mb, 0, none⟩)) (w' := w1) rfl rfl ?_ ?_
      · simp only [fr28]
        clear hD h17
        go_simp
      · exact I28.next (by omega) hls O hD h17 (Only.refl _ _) rfl rfl
    · skip
      refine wpOp_runB (v := .int .i32 (v : Int)) (w' := w1) rfl rfl ?_ ?_
      · simp only [fr28]
        clear hD h17
        go_simp
      · exact I28.next (by omega) hls O hD h17 (Only.refl _ _) rfl rfl
    · skip
      have q8 : f 183 = .int .i32 (v : Int) := (hD 8 (by omega) (by have h := hr; simp [Region.binds] at h; simp [h]))
      refine wpOp_runB (v := .int .i64 (v : Int)) (w' := w1) rfl rfl ?_ ?_
      · simp only [fr28]
        clear hD h17
        go_simp; rw [IntKind.wrap_i64]; omega
      · exact I28.next (by omega) hls O hD h17 (Only.refl _ _) rfl rfl
    · skip
      have q7 : f 182 = .pointer (some ⟨cx.mb, 0, none⟩) := (hD 7 (by omega) (by have h := hr; simp [Region.binds] at h; simp [h]))
      have q9 : f 184 = .int .i64 (v : Int) := (hD 9 (by omega) (by have h := hr; simp [Region.binds] at h; simp [h]))
      refine wpOp_callB (g := 59) (args := #[.pointer (some ⟨cx.mb, 0, none⟩), .int .i64 (v : Int)]) rfl rfl ?_ (T59 w1 O) ?_
      · simp only [fr28]
        clear hD h17
        go_simp
      · rintro e w2 ⟨rfl, O2⟩
        exact ⟨_, rfl, I28.next (by omega) hls O hD h17 O2 rfl rfl⟩
    · skip
      refine wpOp_runB (v := .int .i32 pv) (w' := w1) rfl rfl ?_ ?_
      · simp only [fr28]
        clear hD h17
        go_simp
      · exact I28.next (by omega) hls O hD h17 (Only.refl _ _) rfl rfl
    · skip
      refine wpOp_runB (v := .int .i32 (v : Int)) (w' := w1) rfl rfl ?_ ?_
      · simp only [fr28]
        clear hD h17
        go_simp
      · exact I28.next (by omega) hls O hD h17 (Only.refl _ _) rfl rfl
    · skip
      have q11 : f 186 = .int .i32 pv := (hD 11 (by omega) (by have h := hr; simp [Region.binds] at h; simp [h]))
      have q12 : f 187 = .int .i32 (v : Int) := (hD 12 (by omega) (by have h := hr; simp [Region.binds] at h; simp [h]))
      refine wpOp_runB (v := .agg #[.int .i32 pv, .int .i32 (v : Int)]) (w' := w1) rfl rfl ?_ ?_
      · simp only [fr28]
        clear hD h17
        go_simp
      · exact I28.next (by omega) hls O hD h17 (Only.refl _ _) rfl rfl
    · skip
      refine wpOp_runB (v := .pointer (some ⟨w1.heap.size, 0, none⟩)) (w' := w1.alloc (.cells #[.int .i32 0, .int .i32 0] 77)) rfl rfl ?_ ?_
      · simp only [fr28]
        clear hD h17
        go_simp
      · exact I28.next (by omega) hls O hD h17 (Only.alloc _ _ _) rfl ⟨_, _, rfl, O.size, Row.made _ _ _⟩
    · skip
      have q6 : f 181 = .int .i32 (n : Int) := (hD 6 (by omega) (by have h := hr; simp [Region.binds] at h; simp [h]))
      refine wpOp_runB (v := .int .i32 (n : Int)) (w' := w1) rfl rfl ?_ ?_
      · simp only [fr28]
        clear hD h17
        go_simp
      · exact I28.next (by omega) hls O hD h17 (Only.refl _ _) rfl rfl
    · skip
      have q10 : f 185 = .bool (take m v) := (hD 10 (by omega) (by have h := hr; simp [Region.binds] at h; simp [h]))
      refine wpOp_runB (v := .bool (take m v)) (w' := w1) rfl rfl ?_ ?_
      · simp only [fr28]
        clear hD h17
        go_simp
      · exact I28.next (by omega) hls O hD h17 (Only.refl _ _) rfl rfl
    · skip
      have q13 : f 188 = .agg #[.int .i32 pv, .int .i32 (v : Int)] := (hD 13 (by omega) (by have h := hr; simp [Region.binds] at h; simp [h]))
      obtain ⟨bx, g, e, hbx, r⟩ : D28 m cx b1 o1 v n pv w 14 (f 21) w1 := (hD 14 (by omega) (by have h := hr; simp [Region.binds] at h; simp [h]))
      have k0 := r.cell (i := 0) (by omega)
      have k1 := r.cell (i := 1) (by omega)
      have fz := r.frozen
      have hall : ∀ j, j < 17 → listed.getD j false = true := by
        intro j hj
        have h := hr
        simp [Region.binds] at h
        obtain rfl | rfl | rfl | rfl | rfl | rfl | rfl | rfl | rfl | rfl | rfl | rfl | rfl | rfl | rfl | rfl | rfl : j = 0 ∨ j = 1 ∨ j = 2 ∨ j = 3 ∨ j = 4 ∨ j = 5 ∨ j = 6 ∨ j = 7 ∨ j = 8 ∨ j = 9 ∨ j = 10 ∨ j = 11 ∨ j = 12 ∨ j = 13 ∨ j = 14 ∨ j = 15 ∨ j = 16 := by omega
        all_goals simp [h]
      refine wpOp_skipB (w' := (w1.setCell ⟨bx, 0, none⟩ (.int .i32 pv)).setCell ⟨bx, 1, none⟩ (.int .i32 (v : Int))) rfl rfl ?_ ?_
      · simp only [fr28]
        clear hD h17 hall hr
        go_simp
      · have O' : Only [] w ((w1.setCell ⟨bx, 0, none⟩ (.int .i32 pv)).setCell ⟨bx, 1, none⟩ (.int .i32 (v : Int))) := (O.set bx _ _ (.inr hbx)).set bx _ _ (.inr hbx)
        refine ⟨by simpa using hls, f, rfl, O', fun j hj hl => ?_, fun hl => ⟨fun j hj => ?_, bx, e, hbx, ((r.set _ _).set _ _).ext (fun k hk => ?_)⟩⟩
        · have h := hD j hj (hall j hj)
          by_cases e14 : j = 14
          · subst e14; exact ⟨bx, _, e, hbx, (r.set _ _).set _ _⟩
          · unfold D28 at h ⊢
            split at h
            all_goals first
              | exact h
              | exact absurd rfl e14
        · by_cases e17 : j = 17
          · subst e17; simp [Array.getD_eq_getD_getElem?, hls]
          · have h := hall j (by omega)
            simpa [Array.getD_eq_getD_getElem?, Array.getElem?_setIfInBounds_ne (Ne.symm e17)] using h
        · obtain rfl | rfl : k = 0 ∨ k = 1 := by omega
          · rw [upd_ne _ _ (by omega), upd_at]; rfl
          · rw [upd_at]; rfl
  · intro listed a w1 hI hr
    obtain ⟨hls, f, rfl, O, hD, h17⟩ := hI
    have hall := ready_allB (by rw [hls]; rfl) (by kernel_rfl) hr
    obtain ⟨_, bx, e, hbx, r⟩ := h17 (hall 17 (by decide))
    exact hQ w1 bx f O hbx r (hD 15 (by omega) (hall 15 (by decide))) (hD 16 (by omega) (hall 16 (by decide))) e
  · decide
  · refine ⟨rfl, c, rfl, Only.drew [] w, fun j hj hl => ?_, fun hl => ?_⟩
    · exfalso
      rw [Array.getD_eq_getD_getElem?, Array.getElem?_replicate] at hl
      split at hl <;> simp at hl
    · exfalso
      rw [Array.getD_eq_getD_getElem?, Array.getElem?_replicate] at hl
      split at hl <;> simp at hl
end Go.Proofs.Qxb6602564a
