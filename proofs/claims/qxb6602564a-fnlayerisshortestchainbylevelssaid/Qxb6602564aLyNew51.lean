import Derived.Test.Qxb6602564aLyNew
namespace Go.Proofs.Qxb6602564a
open Go.RowKit
set_option linter.unusedVariables false
def dst51 (j : Nat) : Nat := if j = 31 then 24 else 25 + j
def fr51 (m : M) (f : Nat → Value) : Act := ⟨#[.slice m.a0 m.n0 m.c0, .slice m.a1 m.n1 m.c1, .slice m.a2 m.n2 m.c2, .slice m.a3 m.n3 m.c3, .slice m.a4 m.n4 m.c4, .slice m.a5 m.n5 m.c5, .slice m.a6 m.n6 m.c6, .int .i64 m.k, .slice m.a8 m.n8 m.c8, .slice m.a9 m.n9 m.c9, .slice m.a10 m.n10 m.c10, .slice m.a11 m.n11 m.c11, undef, undef, undef, undef, undef, undef, undef, undef, undef, undef, undef, undef, f 24, f 25, f 26, f 27, f 28, f 29, f 30, f 31, f 32, f 33, f 34, f 35, f 36, f 37, f 38, f 39, f 40, f 41, f 42, f 43, f 44, f 45, f 46, f 47, f 48, f 49, f 50, f 51, f 52, f 53, f 54, f 55], []⟩
def I51 (m : M) (w0 : World) (listed : Array Bool) (a : Act) (w : World) : Prop :=
  listed.size = 32 ∧ ∃ f : Nat → Value, a = fr51 m f ∧ Only [] w0 w ∧ (∀ j, j < 32 → listed.getD j false = true → D51 m w0 j (f (dst51 j)) w) ∧
    (∀ s b, s = 39 ∨ s = 45 ∨ s = 48 → f s = .slice (some ⟨b, 0, none⟩) m.n1 m.n1 → b < w.heap.size) ∧ (∀ s t b, (s = 39 ∨ s = 45 ∨ s = 48) → (t = 39 ∨ t = 45 ∨ t = 48) → s ≠ t → f s = .slice (some ⟨b, 0, none⟩) m.n1 m.n1 → f t ≠ .slice (some ⟨b, 0, none⟩) m.n1 m.n1)
theorem row69 (m : M) (w : World) (fb vb db ib : Nat) : Row (w.alloc (.cells #[Value.slice none 0 0, .slice (some ⟨fb, 0, none⟩) m.n1 m.n1, .slice (some ⟨vb, 0, none⟩) m.n1 m.n1, .slice (some ⟨db, 0, none⟩) m.n1 m.n1, .slice (some ⟨ib, 0, none⟩) m.n1 m.n1, .int .i64 0] 69)) w.heap.size 69 6 (scell m.n1 fb vb db ib (.slice none 0 0) 0) :=
  (Row.made w _ 69).ext (fun i hi => by
    have hi : i < 6 := hi
    obtain rfl | rfl | rfl | rfl | rfl | rfl : i = 0 ∨ i = 1 ∨ i = 2 ∨ i = 3 ∨ i = 4 ∨ i = 5 := by omega
    all_goals rfl)
theorem row73 (m : M) (w : World) (sb hb : Nat) : Row (w.alloc (.cells #[Value.slice m.a0 m.n0 m.c0, .slice m.a1 m.n1 m.c1, .slice m.a2 m.n2 m.c2, .slice m.a3 m.n3 m.c3, .slice none 0 0, .slice m.a4 m.n4 m.c4, .slice m.a5 m.n5 m.c5, .slice m.a6 m.n6 m.c6, .int .i64 m.k, .slice m.a8 m.n8 m.c8, .slice m.a9 m.n9 m.c9, .slice m.a10 m.n10 m.c10, .slice m.a11 m.n11 m.c11, .int .i64 0, .slice none 0 0, .slice none 0 0, .slice none 0 0, .slice none 0 0, .pointer (some ⟨sb, 0, none⟩), .slice none 0 0, .slice none 0 0, .slice (some ⟨hb, 0, none⟩) m.n9 m.n9] 73)) w.heap.size 73 22 (mcell m sb hb (.slice none 0 0)) :=
  (Row.made w _ 73).ext (fun i hi => by
    have hi : i < 22 := hi
    obtain rfl | rfl | rfl | rfl | rfl | rfl | rfl | rfl | rfl | rfl | rfl | rfl | rfl | rfl | rfl | rfl | rfl | rfl | rfl | rfl | rfl | rfl : i = 0 ∨ i = 1 ∨ i = 2 ∨ i = 3 ∨ i = 4 ∨ i = 5 ∨ i = 6 ∨ i = 7 ∨ i = 8 ∨ i = 9 ∨ i = 10 ∨ i = 11 ∨ i = 12 ∨ i = 13 ∨ i = 14 ∨ i = 15 ∨ i = 16 ∨ i = 17 ∨ i = 18 ∨ i = 19 ∨ i = 20 ∨ i = 21 := by omega
    all_goals rfl)
theorem wpOp_run {P : Program} {ops : Array Oper} {Q : Exit → Act → World → Prop} {i : Nat} {o : Oper} {K : Act → World → Prop} {a : Act} {w w' : World} {v : Value} (ho : ops[i]? = some o) (hg : o.guard = none) (hrun : (execOp a.eval o).run P w = .ok (.value v) w') (hK : K (a.put o.dst v) w') : wpOp P ops Q i K a w := by
  unfold wpOp
  have hw : Region.wanted o (yielded ops a.tmps) = true := by simp [Region.wanted, hg]
  simp only [ho, hw, if_true]
  refine .inl ?_
  unfold Oper.wp
  rw [hrun]
  exact hK
/-- One operation more: its value is known, the world has but grown. -/
theorem I51.next {m : M} {w0 w w' : World} {listed : Array Bool} {f : Nat → Value} {i : Nat} {v : Value} {a' : Act} (hi : i < 32) (hls : listed.size = 32) (O : Only [] w0 w) (hD : ∀ j, j < 32 → listed.getD j false = true → D51 m w0 j (f (dst51 j)) w)
    (h3 : ∀ s b, s = 39 ∨ s = 45 ∨ s = 48 → f s = .slice (some ⟨b, 0, none⟩) m.n1 m.n1 → b < w.heap.size) (h4 : ∀ s t b, (s = 39 ∨ s = 45 ∨ s = 48) → (t = 39 ∨ t = 45 ∨ t = 48) → s ≠ t → f s = .slice (some ⟨b, 0, none⟩) m.n1 m.n1 → f t ≠ .slice (some ⟨b, 0, none⟩) m.n1 m.n1)
    (O' : Only [] w w') (ha : a' = fr51 m (upd f (dst51 i) v)) (hv : D51 m w0 i v w') (hnew : dst51 i = 39 ∨ dst51 i = 45 ∨ dst51 i = 48 → v = .slice (some ⟨w.heap.size, 0, none⟩) m.n1 m.n1 ∧ w.heap.size < w'.heap.size) : I51 m w0 (listed.setIfInBounds i true) a' w' := by
  have hinj : ∀ j, j < 32 → j ≠ i → dst51 j ≠ dst51 i := fun j hj hne => by unfold dst51; split <;> split <;> omega
  have hsz := O'.size
  refine ⟨by simpa using hls, upd f (dst51 i) v, ha, O.trans O', fun j hj hl => ?_, fun s b hs hb => ?_, fun s t b hs ht hne hb => ?_⟩
  · by_cases e : j = i
    · subst e; rw [upd_at]; exact hv
    · rw [upd_ne _ _ (hinj j hj e)]
      refine (hD j hj ?_).up O'
      simpa [Array.getD_eq_getD_getElem?, Array.getElem?_setIfInBounds_ne (Ne.symm e)] using hl
  · by_cases e : s = dst51 i
    · subst e
      rw [upd_at] at hb
      obtain ⟨h1, h2⟩ := hnew hs
      rw [h1] at hb; cases hb; exact h2
    · rw [upd_ne _ _ e] at hb
      have := h3 s b hs hb; omega
  · by_cases e : s = dst51 i
    · subst e
      rw [upd_at] at hb
      obtain ⟨h1, h2⟩ := hnew hs
      rw [h1] at hb; cases hb
      rw [upd_ne _ _ (Ne.symm hne)]
      intro h5
      have := h3 t _ ht h5; omega
    · rw [upd_ne _ _ e] at hb
      by_cases e2 : t = dst51 i
      · subst e2
        rw [upd_at]
        obtain ⟨h1, h2⟩ := hnew ht
        rw [h1]
        intro h5; cases h5
        have := h3 s _ hs hb; omega
      · rw [upd_ne _ _ e2]; exact h4 s t b hs ht hne hb
set_option maxRecDepth 100000 in
set_option maxHeartbeats 8000000 in
theorem masters51 (m : M) (w : World) (hn : m.n1 ≤ 262144) (hn9 : m.n9 ≤ 262144) :
    Calls Try.prog 51 #[.slice m.a0 m.n0 m.c0, .slice m.a1 m.n1 m.c1, .slice m.a2 m.n2 m.c2, .slice m.a3 m.n3 m.c3, .slice m.a4 m.n4 m.c4, .slice m.a5 m.n5 m.c5, .slice m.a6 m.n6 m.c6, .int .i64 m.k, .slice m.a8 m.n8 m.c8, .slice m.a9 m.n9 m.c9, .slice m.a10 m.n10 m.c10, .slice m.a11 m.n11 m.c11] w fun e w' => FreshP m w e w' := by
  have mkI : ∀ w : World, (Instr.makeSlice 26 (.int .i64 (m.n1 : Int)) (.int .i64 (m.n1 : Int))).run Try.prog w = .ok (.slice (some ⟨w.heap.size, 0, none⟩) m.n1 m.n1) (w.alloc (.cells (Array.replicate m.n1 (.int .i64 0)) 3)) := fun w => by
    have h := run_make_list (P := Try.prog) 26 3 (.int .i64 0) (.int .i64 0) 1 8 m.n1 Try.underlying26 Try.inf3 rfl (by omega) .i64 .i64 (by omega) (by omega) w
    simpa using h
  have mkV : ∀ w : World, (Instr.makeSlice 67 (.int .i64 (m.n1 : Int)) (.int .i64 (m.n1 : Int))).run Try.prog w = .ok (.slice (some ⟨w.heap.size, 0, none⟩) m.n1 m.n1) (w.alloc (.cells (Array.replicate (m.n1 * 2) (.int .i32 0)) 77)) := fun w =>
    run_make_list (P := Try.prog) 67 77 (.int .i32 0) z77 2 8 m.n1 Try.underlying67 Try.inf77 rfl (by omega) .i64 .i64 (by omega) (by omega) w
  have mkH : ∀ w : World, (Instr.makeSlice 70 (.int .i64 (m.n9 : Int)) (.int .i64 (m.n9 : Int))).run Try.prog w = .ok (.slice (some ⟨w.heap.size, 0, none⟩) m.n9 m.n9) (w.alloc (.cells (Array.replicate (m.n9 * 3) (.int .i64 0)) 81)) := fun w =>
    run_make_list (P := Try.prog) 70 81 (.int .i64 0) z81 3 24 m.n9 Try.underlying70 Try.inf81 rfl (by omega) .i64 .i64 (by omega) (by omega) w
  go_enter Try.func51, Try.ntmps51
  go_upto_region 1 with fail
  refine wp_region_any (by kernel_rfl) ?_
  refine wpAny_inv (I51 m w) ?_ ?_ _ _ _ _ ?_ ?_
  · intro listed a w1 hI i hi
    obtain ⟨hls, f, rfl, O, hD, h3, h4⟩ := hI
    have hi32 : i < 32 := by
      have := (List.mem_filter.1 hi).1
      simpa using this
    have hr := (List.mem_filter.1 hi).2
    clear hi
    obtain rfl | rfl | rfl | rfl | rfl | rfl | rfl | rfl | rfl | rfl | rfl | rfl | rfl | rfl | rfl | rfl | rfl | rfl | rfl | rfl | rfl | rfl | rfl | rfl | rfl | rfl | rfl | rfl | rfl | rfl | rfl | rfl : i = 0 ∨ i = 1 ∨ i = 2 ∨ i = 3 ∨ i = 4 ∨ i = 5 ∨ i = 6 ∨ i = 7 ∨ i = 8 ∨ i = 9 ∨ i = 10 ∨ i = 11 ∨ i = 12 ∨ i = 13 ∨ i = 14 ∨ i = 15 ∨ i = 16 ∨ i = 17 ∨ i = 18 ∨ i = 19 ∨ i = 20 ∨ i = 21 ∨ i = 22 ∨ i = 23 ∨ i = 24 ∨ i = 25 ∨ i = 26 ∨ i = 27 ∨ i = 28 ∨ i = 29 ∨ i = 30 ∨ i = 31 := by omega
    · skip
      refine wpOp_run (v := (.slice m.a0 m.n0 m.c0)) (w' := w1) rfl rfl ?_ ?_
      · simp only [fr51]
        clear hD h3 h4
        go_simp
      · exact I51.next hi32 hls O hD h3 h4 (Only.refl _ _) rfl rfl (by simp [dst51])
    · skip
      refine wpOp_run (v := (.slice m.a1 m.n1 m.c1)) (w' := w1) rfl rfl ?_ ?_
      · simp only [fr51]
        clear hD h3 h4
        go_simp
      · exact I51.next hi32 hls O hD h3 h4 (Only.refl _ _) rfl rfl (by simp [dst51])
    · skip
      refine wpOp_run (v := (.slice m.a2 m.n2 m.c2)) (w' := w1) rfl rfl ?_ ?_
      · simp only [fr51]
        clear hD h3 h4
        go_simp
      · exact I51.next hi32 hls O hD h3 h4 (Only.refl _ _) rfl rfl (by simp [dst51])
    · skip
      refine wpOp_run (v := (.slice m.a3 m.n3 m.c3)) (w' := w1) rfl rfl ?_ ?_
      · simp only [fr51]
        clear hD h3 h4
        go_simp
      · exact I51.next hi32 hls O hD h3 h4 (Only.refl _ _) rfl rfl (by simp [dst51])
    · skip
      refine wpOp_run (v := (.slice m.a4 m.n4 m.c4)) (w' := w1) rfl rfl ?_ ?_
      · simp only [fr51]
        clear hD h3 h4
        go_simp
      · exact I51.next hi32 hls O hD h3 h4 (Only.refl _ _) rfl rfl (by simp [dst51])
    · skip
      refine wpOp_run (v := (.slice m.a5 m.n5 m.c5)) (w' := w1) rfl rfl ?_ ?_
      · simp only [fr51]
        clear hD h3 h4
        go_simp
      · exact I51.next hi32 hls O hD h3 h4 (Only.refl _ _) rfl rfl (by simp [dst51])
    · skip
      refine wpOp_run (v := (.slice m.a6 m.n6 m.c6)) (w' := w1) rfl rfl ?_ ?_
      · simp only [fr51]
        clear hD h3 h4
        go_simp
      · exact I51.next hi32 hls O hD h3 h4 (Only.refl _ _) rfl rfl (by simp [dst51])
    · skip
      refine wpOp_run (v := (.int .i64 m.k)) (w' := w1) rfl rfl ?_ ?_
      · simp only [fr51]
        clear hD h3 h4
        go_simp
      · exact I51.next hi32 hls O hD h3 h4 (Only.refl _ _) rfl rfl (by simp [dst51])
    · skip
      refine wpOp_run (v := (.slice m.a8 m.n8 m.c8)) (w' := w1) rfl rfl ?_ ?_
      · simp only [fr51]
        clear hD h3 h4
        go_simp
      · exact I51.next hi32 hls O hD h3 h4 (Only.refl _ _) rfl rfl (by simp [dst51])
    · skip
      refine wpOp_run (v := (.slice m.a9 m.n9 m.c9)) (w' := w1) rfl rfl ?_ ?_
      · simp only [fr51]
        clear hD h3 h4
        go_simp
      · exact I51.next hi32 hls O hD h3 h4 (Only.refl _ _) rfl rfl (by simp [dst51])
    · skip
      refine wpOp_run (v := (.slice m.a10 m.n10 m.c10)) (w' := w1) rfl rfl ?_ ?_
      · simp only [fr51]
        clear hD h3 h4
        go_simp
      · exact I51.next hi32 hls O hD h3 h4 (Only.refl _ _) rfl rfl (by simp [dst51])
    · skip
      refine wpOp_run (v := (.slice m.a11 m.n11 m.c11)) (w' := w1) rfl rfl ?_ ?_
      · simp only [fr51]
        clear hD h3 h4
        go_simp
      · exact I51.next hi32 hls O hD h3 h4 (Only.refl _ _) rfl rfl (by simp [dst51])
    · skip
      refine wpOp_run (v := (.slice m.a1 m.n1 m.c1)) (w' := w1) rfl rfl ?_ ?_
      · simp only [fr51]
        clear hD h3 h4
        go_simp
      · exact I51.next hi32 hls O hD h3 h4 (Only.refl _ _) rfl rfl (by simp [dst51])
    · skip
      have q : f 37 = .slice m.a1 m.n1 m.c1 := (hD 12 (by omega) (by have h := hr; simp [Region.binds] at h; simp [h]))
      refine wpOp_run (v := (.int .i64 (m.n1 : Int))) (w' := w1) rfl rfl ?_ ?_
      · simp only [fr51]
        clear hD h3 h4
        go_simp
      · exact I51.next hi32 hls O hD h3 h4 (Only.refl _ _) rfl rfl (by simp [dst51])
    · skip
      have q : f 38 = .int .i64 (m.n1 : Int) := (hD 13 (by omega) (by have h := hr; simp [Region.binds] at h; simp [h]))
      refine wpOp_run (v := (.slice (some ⟨w1.heap.size, 0, none⟩) m.n1 m.n1)) (w' := (w1.alloc (.cells (Array.replicate m.n1 (.int .i64 0)) 3))) rfl rfl ?_ ?_
      · simp only [fr51]
        clear hD h3 h4
        go_simp
      · exact I51.next hi32 hls O hD h3 h4 (Only.alloc _ _ _) rfl ⟨_, rfl, O.size, Row.zeros _ _ _ _⟩ (fun _ => ⟨rfl, by simp⟩)
    · skip
      refine wpOp_run (v := (.slice m.a1 m.n1 m.c1)) (w' := w1) rfl rfl ?_ ?_
      · simp only [fr51]
        clear hD h3 h4
        go_simp
      · exact I51.next hi32 hls O hD h3 h4 (Only.refl _ _) rfl rfl (by simp [dst51])
    · skip
      have q : f 40 = .slice m.a1 m.n1 m.c1 := (hD 15 (by omega) (by have h := hr; simp [Region.binds] at h; simp [h]))
      refine wpOp_run (v := (.int .i64 (m.n1 : Int))) (w' := w1) rfl rfl ?_ ?_
      · simp only [fr51]
        clear hD h3 h4
        go_simp
      · exact I51.next hi32 hls O hD h3 h4 (Only.refl _ _) rfl rfl (by simp [dst51])
    · skip
      have q : f 41 = .int .i64 (m.n1 : Int) := (hD 16 (by omega) (by have h := hr; simp [Region.binds] at h; simp [h]))
      refine wpOp_run (v := (.slice (some ⟨w1.heap.size, 0, none⟩) m.n1 m.n1)) (w' := (w1.alloc (.cells (Array.replicate (m.n1 * 2) (.int .i32 0)) 77))) rfl rfl ?_ ?_
      · simp only [fr51]
        clear hD h3 h4
        go_simp
      · exact I51.next hi32 hls O hD h3 h4 (Only.alloc _ _ _) rfl ⟨_, rfl, O.size, Row.zeros _ _ _ _⟩ (by simp [dst51])
    · skip
      refine wpOp_run (v := (.slice m.a1 m.n1 m.c1)) (w' := w1) rfl rfl ?_ ?_
      · simp only [fr51]
        clear hD h3 h4
        go_simp
      · exact I51.next hi32 hls O hD h3 h4 (Only.refl _ _) rfl rfl (by simp [dst51])
    · skip
      have q : f 43 = .slice m.a1 m.n1 m.c1 := (hD 18 (by omega) (by have h := hr; simp [Region.binds] at h; simp [h]))
      refine wpOp_run (v := (.int .i64 (m.n1 : Int))) (w' := w1) rfl rfl ?_ ?_
      · simp only [fr51]
        clear hD h3 h4
        go_simp
      · exact I51.next hi32 hls O hD h3 h4 (Only.refl _ _) rfl rfl (by simp [dst51])
    · skip
      have q : f 44 = .int .i64 (m.n1 : Int) := (hD 19 (by omega) (by have h := hr; simp [Region.binds] at h; simp [h]))
      refine wpOp_run (v := (.slice (some ⟨w1.heap.size, 0, none⟩) m.n1 m.n1)) (w' := (w1.alloc (.cells (Array.replicate m.n1 (.int .i64 0)) 3))) rfl rfl ?_ ?_
      · simp only [fr51]
        clear hD h3 h4
        go_simp
      · exact I51.next hi32 hls O hD h3 h4 (Only.alloc _ _ _) rfl ⟨_, rfl, O.size, Row.zeros _ _ _ _⟩ (fun _ => ⟨rfl, by simp⟩)
    · skip
      refine wpOp_run (v := (.slice m.a1 m.n1 m.c1)) (w' := w1) rfl rfl ?_ ?_
      · simp only [fr51]
        clear hD h3 h4
        go_simp
      · exact I51.next hi32 hls O hD h3 h4 (Only.refl _ _) rfl rfl (by simp [dst51])
    · skip
      have q : f 46 = .slice m.a1 m.n1 m.c1 := (hD 21 (by omega) (by have h := hr; simp [Region.binds] at h; simp [h]))
      refine wpOp_run (v := (.int .i64 (m.n1 : Int))) (w' := w1) rfl rfl ?_ ?_
      · simp only [fr51]
        clear hD h3 h4
        go_simp
      · exact I51.next hi32 hls O hD h3 h4 (Only.refl _ _) rfl rfl (by simp [dst51])
    · skip
      have q : f 47 = .int .i64 (m.n1 : Int) := (hD 22 (by omega) (by have h := hr; simp [Region.binds] at h; simp [h]))
      refine wpOp_run (v := (.slice (some ⟨w1.heap.size, 0, none⟩) m.n1 m.n1)) (w' := (w1.alloc (.cells (Array.replicate m.n1 (.int .i64 0)) 3))) rfl rfl ?_ ?_
      · simp only [fr51]
        clear hD h3 h4
        go_simp
      · exact I51.next hi32 hls O hD h3 h4 (Only.alloc _ _ _) rfl ⟨_, rfl, O.size, Row.zeros _ _ _ _⟩ (fun _ => ⟨rfl, by simp⟩)
    · skip
      obtain ⟨b1, e1, z1⟩ : D51 m w 14 (f 39) w1 := (hD 14 (by omega) (by have h := hr; simp [Region.binds] at h; simp [h]))
      obtain ⟨b2, e2, z2⟩ : D51 m w 17 (f 42) w1 := (hD 17 (by omega) (by have h := hr; simp [Region.binds] at h; simp [h]))
      obtain ⟨b3, e3, z3⟩ : D51 m w 20 (f 45) w1 := (hD 20 (by omega) (by have h := hr; simp [Region.binds] at h; simp [h]))
      obtain ⟨b4, e4, z4⟩ : D51 m w 23 (f 48) w1 := (hD 23 (by omega) (by have h := hr; simp [Region.binds] at h; simp [h]))
      have d1 : b1 ≠ b3 := fun h => h4 39 45 b1 (by simp) (by simp) (by simp) e1 (h ▸ e3)
      have d2 : b1 ≠ b4 := fun h => h4 39 48 b1 (by simp) (by simp) (by simp) e1 (h ▸ e4)
      have d3 : b3 ≠ b4 := fun h => h4 45 48 b3 (by simp) (by simp) (by simp) e3 (h ▸ e4)
      refine wpOp_run (v := (.agg #[Value.slice none 0 0, .slice (some ⟨b1, 0, none⟩) m.n1 m.n1, .slice (some ⟨b2, 0, none⟩) m.n1 m.n1, .slice (some ⟨b3, 0, none⟩) m.n1 m.n1, .slice (some ⟨b4, 0, none⟩) m.n1 m.n1, .int .i64 0])) (w' := w1) rfl rfl ?_ ?_
      · simp only [fr51]
        clear hD h3 h4
        go_simp
      · exact I51.next hi32 hls O hD h3 h4 (Only.refl _ _) rfl ⟨_, _, _, _, rfl, z1, z2, z3, z4, d1, d2, d3⟩ (by simp [dst51])
    · skip
      obtain ⟨fb, vb, db, ib, e, z⟩ : D51 m w 24 (f 49) w1 := (hD 24 (by omega) (by have h := hr; simp [Region.binds] at h; simp [h]))
      refine wpOp_run (v := (.pointer (some ⟨w1.heap.size, 0, none⟩))) (w' := (w1.alloc (.cells #[Value.slice none 0 0, .slice (some ⟨fb, 0, none⟩) m.n1 m.n1, .slice (some ⟨vb, 0, none⟩) m.n1 m.n1, .slice (some ⟨db, 0, none⟩) m.n1 m.n1, .slice (some ⟨ib, 0, none⟩) m.n1 m.n1, .int .i64 0] 69))) rfl rfl ?_ ?_
      · simp only [fr51]
        clear hD h3 h4
        go_simp
      · exact I51.next hi32 hls O hD h3 h4 (Only.alloc _ _ _) rfl ⟨_, fb, vb, db, ib, rfl, O.size, row69 m w1 fb vb db ib, z.up (Only.alloc _ _ _)⟩ (by simp [dst51])
    · skip
      refine wpOp_run (v := (.slice m.a9 m.n9 m.c9)) (w' := w1) rfl rfl ?_ ?_
      · simp only [fr51]
        clear hD h3 h4
        go_simp
      · exact I51.next hi32 hls O hD h3 h4 (Only.refl _ _) rfl rfl (by simp [dst51])
    · skip
      have q : f 51 = .slice m.a9 m.n9 m.c9 := (hD 26 (by omega) (by have h := hr; simp [Region.binds] at h; simp [h]))
      refine wpOp_run (v := (.int .i64 (m.n9 : Int))) (w' := w1) rfl rfl ?_ ?_
      · simp only [fr51]
        clear hD h3 h4
        go_simp
      · exact I51.next hi32 hls O hD h3 h4 (Only.refl _ _) rfl rfl (by simp [dst51])
    · skip
      have q : f 52 = .int .i64 (m.n9 : Int) := (hD 27 (by omega) (by have h := hr; simp [Region.binds] at h; simp [h]))
      refine wpOp_run (v := (.slice (some ⟨w1.heap.size, 0, none⟩) m.n9 m.n9)) (w' := (w1.alloc (.cells (Array.replicate (m.n9 * 3) (.int .i64 0)) 81))) rfl rfl ?_ ?_
      · simp only [fr51]
        clear hD h3 h4
        go_simp
      · exact I51.next hi32 hls O hD h3 h4 (Only.alloc _ _ _) rfl ⟨_, rfl, O.size, Row.zeros _ _ _ _⟩ (by simp [dst51])
    · skip
      have q0 : f 25 = .slice m.a0 m.n0 m.c0 := (hD 0 (by omega) (by have h := hr; simp [Region.binds] at h; simp [h]))
      have q1 : f 26 = .slice m.a1 m.n1 m.c1 := (hD 1 (by omega) (by have h := hr; simp [Region.binds] at h; simp [h]))
      have q2 : f 27 = .slice m.a2 m.n2 m.c2 := (hD 2 (by omega) (by have h := hr; simp [Region.binds] at h; simp [h]))
      have q3 : f 28 = .slice m.a3 m.n3 m.c3 := (hD 3 (by omega) (by have h := hr; simp [Region.binds] at h; simp [h]))
      have q4 : f 29 = .slice m.a4 m.n4 m.c4 := (hD 4 (by omega) (by have h := hr; simp [Region.binds] at h; simp [h]))
      have q5 : f 30 = .slice m.a5 m.n5 m.c5 := (hD 5 (by omega) (by have h := hr; simp [Region.binds] at h; simp [h]))
      have q6 : f 31 = .slice m.a6 m.n6 m.c6 := (hD 6 (by omega) (by have h := hr; simp [Region.binds] at h; simp [h]))
      have q7 : f 32 = .int .i64 m.k := (hD 7 (by omega) (by have h := hr; simp [Region.binds] at h; simp [h]))
      have q8 : f 33 = .slice m.a8 m.n8 m.c8 := (hD 8 (by omega) (by have h := hr; simp [Region.binds] at h; simp [h]))
      have q9 : f 34 = .slice m.a9 m.n9 m.c9 := (hD 9 (by omega) (by have h := hr; simp [Region.binds] at h; simp [h]))
      have q10 : f 35 = .slice m.a10 m.n10 m.c10 := (hD 10 (by omega) (by have h := hr; simp [Region.binds] at h; simp [h]))
      have q11 : f 36 = .slice m.a11 m.n11 m.c11 := (hD 11 (by omega) (by have h := hr; simp [Region.binds] at h; simp [h]))
      obtain ⟨sb, fb, vb, db, ib, e, z⟩ : D51 m w 25 (f 50) w1 := (hD 25 (by omega) (by have h := hr; simp [Region.binds] at h; simp [h]))
      obtain ⟨hb, e2, z2⟩ : D51 m w 28 (f 53) w1 := (hD 28 (by omega) (by have h := hr; simp [Region.binds] at h; simp [h]))
      refine wpOp_run (v := (.agg #[Value.slice m.a0 m.n0 m.c0, .slice m.a1 m.n1 m.c1, .slice m.a2 m.n2 m.c2, .slice m.a3 m.n3 m.c3, .slice none 0 0, .slice m.a4 m.n4 m.c4, .slice m.a5 m.n5 m.c5, .slice m.a6 m.n6 m.c6, .int .i64 m.k, .slice m.a8 m.n8 m.c8, .slice m.a9 m.n9 m.c9, .slice m.a10 m.n10 m.c10, .slice m.a11 m.n11 m.c11, .int .i64 0, .slice none 0 0, .slice none 0 0, .slice none 0 0, .slice none 0 0, .pointer (some ⟨sb, 0, none⟩), .slice none 0 0, .slice none 0 0, .slice (some ⟨hb, 0, none⟩) m.n9 m.n9])) (w' := w1) rfl rfl ?_ ?_
      · simp only [fr51]
        clear hD h3 h4
        go_simp
      · exact I51.next hi32 hls O hD h3 h4 (Only.refl _ _) rfl ⟨sb, fb, vb, db, ib, hb, rfl, z, z2⟩ (by simp [dst51])
    · skip
      obtain ⟨sb, fb, vb, db, ib, hb, e, z, z2⟩ : D51 m w 29 (f 54) w1 := (hD 29 (by omega) (by have h := hr; simp [Region.binds] at h; simp [h]))
      refine wpOp_run (v := (.pointer (some ⟨w1.heap.size, 0, none⟩))) (w' := (w1.alloc (.cells #[Value.slice m.a0 m.n0 m.c0, .slice m.a1 m.n1 m.c1, .slice m.a2 m.n2 m.c2, .slice m.a3 m.n3 m.c3, .slice none 0 0, .slice m.a4 m.n4 m.c4, .slice m.a5 m.n5 m.c5, .slice m.a6 m.n6 m.c6, .int .i64 m.k, .slice m.a8 m.n8 m.c8, .slice m.a9 m.n9 m.c9, .slice m.a10 m.n10 m.c10, .slice m.a11 m.n11 m.c11, .int .i64 0, .slice none 0 0, .slice none 0 0, .slice none 0 0, .slice none 0 0, .pointer (some ⟨sb, 0, none⟩), .slice none 0 0, .slice none 0 0, .slice (some ⟨hb, 0, none⟩) m.n9 m.n9] 73))) rfl rfl ?_ ?_
      · simp only [fr51]
        clear hD h3 h4
        go_simp
      · exact I51.next hi32 hls O hD h3 h4 (Only.alloc _ _ _) rfl ⟨_, sb, fb, vb, db, ib, hb, rfl, O.size, row73 m w1 sb hb, z.up (Only.alloc _ _ _), z2.up (Only.alloc _ _ _)⟩ (by simp [dst51])
    · skip
      obtain ⟨mb, sb, fb, vb, db, ib, hb, e, z⟩ : D51 m w 30 (f 55) w1 := (hD 30 (by omega) (by have h := hr; simp [Region.binds] at h; simp [h]))
      refine wpOp_run (v := (.pointer (some ⟨mb, 0, none⟩))) (w' := w1) rfl rfl ?_ ?_
      · simp only [fr51]
        clear hD h3 h4
        go_simp
      · exact I51.next hi32 hls O hD h3 h4 (Only.refl _ _) rfl ⟨mb, sb, fb, vb, db, ib, hb, rfl, z⟩ (by simp [dst51])
  · intro listed a w1 hI hr
    obtain ⟨hls, f, rfl, O, hD, h3, h4⟩ := hI
    have hall := ready_all (by rw [hls]; rfl) (by kernel_rfl) hr
    obtain ⟨mb, sb, fb, vb, db, ib, hb, e, s1, rm, sx, zh⟩ : D51 m w 31 (f 24) w1 := hD 31 (by omega) (hall 31 (by decide))
    have FIN : Hid (FreshP m w (.returned (.pointer (some ⟨mb, 0, none⟩))) w1) :=
      ⟨mb, sb, fb, vb, db, ib, hb, rfl, ⟨rm, sx.2.1, ⟨_, sx.2.2.f.2⟩, ⟨_, sx.2.2.v.2⟩, sx.2.2.d.2, sx.2.2.i.2, ⟨_, zh.2, fun n hn => rfl⟩, sx.2.2.fd, sx.2.2.fi, sx.2.2.di⟩, O, s1, sx.1, sx.2.2.f.1, sx.2.2.v.1, sx.2.2.d.1, sx.2.2.i.1, zh.1⟩
    clear hD h3 h4 hall hr sx zh rm O
    simp only [fr51, e]
    go_wp2
    go_ret
    exact FIN.out
  · decide
  · refine ⟨rfl, fun s => if s = 24 then .pointer none else undef, rfl, Only.drew [] w, fun j hj hl => ?_, ?_, ?_⟩
    · exfalso
      rw [Array.getD_eq_getD_getElem?, Array.getElem?_replicate] at hl
      split at hl <;> simp at hl
    · rintro s b (rfl | rfl | rfl) h <;> simp [undef] at h
    · rintro s t b (rfl | rfl | rfl) ht hne h <;> simp [undef] at h
end Go.Proofs.Qxb6602564a
