/-
  seal: the rows added since the last chunk become a chunk.
-/
import Derived.Test.Qxb6602660aRbFields
import Derived.Deep.RegionLawGrows
import Derived.Deep.AppendLies
import Derived.Laws.BytesArg
namespace Go.Proofs.Qxb6602660a
open Go.RowKit
set_option linter.unusedVariables false

def DoneP (w : World) (e : Ending) (w' : World) : Prop := e = .returned (.tuple #[]) ∧ w' = w
/-- Nothing added: nothing is done. -/
theorem seal0 (F : Bf) (rb : Nat) (w : World) (R : Row w rb 48 6 (bcell F)) (hz : F.zn = 0) : Calls Try.prog 25 #[.pointer (some ⟨rb, 0, none⟩)] w fun e w' => DoneP w e w' := by
  have c3 : w.cell? ⟨rb, 3, none⟩ = some (.slice F.za 0 F.zc) := by have h := R.cell (i := 3) (by omega); rw [← hz]; exact h
  clear R hz
  go_enter Try.func25, Try.ntmps25
  go_wp2
  go_end0
  exact ⟨rfl, rfl⟩
theorem Only.of_grown {w w' : World} (h : w.grownBy w' none) : Only [] w w' := ⟨h.os, h.tape, h.output, h.size, fun k hk _ => h.block k hk (by simp)⟩
/-- What the statement that appends reads, in whatever world of the way. -/
structure SealS (F : Bf) (rb zb zo : Nat) (w w' : World) : Prop where
  o : Only [rb] w w'
  c2 : w'.cell? ⟨rb, 2, none⟩ = some (.slice F.ta F.tn F.tc)
  c3 : w'.cell? ⟨rb, 3, none⟩ = some (.slice (some ⟨zb, zo, none⟩) F.zn F.zc)
theorem SealS.next {F : Bf} {rb zb zo : Nat} {w w' w'' : World} (h : SealS F rb zb zo w w') (O : Only [] w' w'') : SealS F rb zb zo w w'' := ⟨h.o.trans (O.mono (by simp)), O.cell (by simp) h.c2, O.cell (by simp) h.c3⟩
theorem SealS.set1 {F : Bf} {rb zb zo : Nat} {w w' : World} (h : SealS F rb zb zo w w') (v : Value) : SealS F rb zb zo w (w'.setCell ⟨rb, 1, none⟩ v) :=
  ⟨h.o.set rb 1 v (.inl (by simp)), (World.cell?_setCell_other w' _ _ v (by simp)).trans h.c2, (World.cell?_setCell_other w' _ _ v (by simp)).trans h.c3⟩
theorem run_cut0 {P : Program} (t e : TypeId) (a : Option Addr) (n c s : Nat) (hu : P.underlying t = some (.slice e)) (hs : (P.info? e).map (·.size) = some s) (w : World) :
    (Instr.slice t (.slice a n c) none (some (.int .i64 0)) none).run P w = .ok (.slice a 0 c) w := by
  have h2 : P.elem t = e := by simp [Program.elem, hu]
  rw [run_slice_h (P := P) (w := w) (t := t) (a := a) (len := n) (cap := c) (kh := .i64) (h := 0) (by rw [h2]; exact hu) (by omega) (by omega), h2]
  cases hq : P.info? e with
  | none => simp [hq] at hs
  | some inf =>
    have e2 : ∀ x : Addr, x.add 0 = x := fun x => by cases x; rfl
    cases a <;> simp [sizeOf, typeInfo, hq, sliced, e2]
theorem convert_bytes {w : World} {B : Nat} {a : Option Addr} {n c : Nat} {s : Nat → Int} (h : Elems w B a n 1 (bytes s)) (rb : Nat) (hB : B ≤ rb) : ∃ str : ByteArray, str.size = n ∧ ∀ w', Only [rb] w w' → (convert 26 9 (.slice a n c)).run Try.prog w' = .ok (.string str) w' := by
  by_cases h0 : 0 < n
  · obtain ⟨b, o, rfl, hb, hc⟩ := h h0
    refine ⟨strOfNums ((List.range n).map s), by simp [strOfNums, ByteArray.size], fun w' O => run_convert_bytes_arg (P := Try.prog) w' 26 5 Try.underlying26 Try.underlying5 b o n c _ (by simp) (fun i hi => ?_) 9 Try.underlying9⟩
    rw [O.cell (by simp; omega) (hc i (by omega))]
    simp [bytes, List.getD_eq_getElem?_getD, hi]
  · obtain rfl : n = 0 := by omega
    refine ⟨ByteArray.empty, rfl, fun w' _ => ?_⟩
    rw [run_convert_bytes_string w' 26 9 5 _ 0 c Try.underlying26 Try.underlying5 Try.underlying9]
    cases a <;> simp [Conv.bytesToString, loadCells]
    all_goals rfl
def SealP (rb : Nat) (w : World) (e : Ending) (w' : World) : Prop :=
  e = .returned (.tuple #[]) ∧ Only [rb] w w' ∧ ∃ F', BufAt w' rb w'.heap.size F' ∧ F'.zn = 0 ∧ F'.ch.n ≤ 65537 ∧ F'.tn ≤ 1048576 ∧ ∀ i, i < F'.ch.n → F'.ch.sn i ≤ 1048576
/-- An append by another name: it goes by its law (an equation ahead of the walk), not by being laid open. -/
def appd (ats : Array TypeId) (ty : TypeId) (args : Array Value) : Sem Value := Builtin.append_ ats ty args
theorem appd_eq (ats : Array TypeId) (ty : TypeId) (args : Array Value) : Builtin.append_ ats ty args = appd ats ty args := rfl
attribute [local go_sem ↓] appd_eq
set_option maxRecDepth 100000 in
set_option maxHeartbeats 4000000 in
theorem seal25 (F : Bf) (rb cb : Nat) (w : World) (H : BufAt w rb rb F) (hca : F.ch.a = some ⟨cb, 0, none⟩) (hcc : F.ch.c = F.ch.n) (hn : F.ch.n ≤ 65536) (hz : 0 < F.zn) (hz2 : F.zn ≤ 1048576) (ht : F.tn ≤ 1048576) (hx : ∀ i, i < F.ch.n → F.ch.sn i ≤ 1048576) :
    Calls Try.prog 25 #[.pointer (some ⟨rb, 0, none⟩)] w fun e w' => SealP rb w e w' := by
  have hrb := H.rh.lt
  obtain ⟨zb, zo, hza, hzb, hzc⟩ := H.sz hz
  obtain ⟨str, hstr, hconv⟩ := convert_bytes (c := F.tc) H.tx rb (Nat.le_refl _)
  obtain ⟨i5, hi5, h50, h51, h52⟩ := info_parts Try.info5
  obtain ⟨i46, hi46, h460, h461, h462⟩ := info_parts Try.info46
  have c1 : w.cell? ⟨rb, 1, none⟩ = some (.slice (some ⟨cb, 0, none⟩) F.ch.n F.ch.n) := by
    have h : w.cell? ⟨rb, 1, none⟩ = some (.slice F.ch.a F.ch.n F.ch.c) := H.rh.cell (i := 1) (by omega)
    rw [hca, hcc] at h; exact h
  have c2 : w.cell? ⟨rb, 2, none⟩ = some (.slice F.ta F.tn F.tc) := H.rh.cell (i := 2) (by omega)
  have c3 : w.cell? ⟨rb, 3, none⟩ = some (.slice (some ⟨zb, zo, none⟩) F.zn F.zc) := by
    have h := H.rh.cell (i := 3) (by omega); rw [← hza]; exact h
  have f1 := H.rh.frozen
  have S0 : SealS F rb zb zo w w.drew := ⟨Only.drew _ _, c2, c3⟩
  have n1 : ∀ w', Only [rb] w w' → ∀ j u, ((List.range F.zn).map (bytes F.zb))[j]? = some u → w'.cell? ((⟨zb, zo, none⟩ : Addr).add j) = some u := fun w' h j u hu => by
    have hj : j < F.zn := by have := (List.getElem?_eq_some_iff.1 hu).1; simpa using this
    have e : (⟨zb, zo, none⟩ : Addr).add j = ⟨zb, zo + j, none⟩ := by unfold Addr.add; split <;> simp_all
    rw [e, h.cell (by simp; omega) (hzc j (by omega))]
    simpa [hj] using hu
  obtain ⟨g1, cap1, w1, hr1, own1, gr1, _, hl1⟩ := run_append_lies (P := Try.prog) w.drew 26 26 w.heap.size 5 i5 (.int .u8 0) 1 1 Try.underlying26 hi5 h50 h51 h52 rfl (by omega) (.slice none 0 0) 0 [] (World.ownsRow_nil _ _ _ _) ⟨zb, zo, none⟩ F.zn F.zc ((List.range F.zn).map (bytes F.zb)) (by simp) (n1 _ S0.o) (by simp [bytes]; intros; subst_vars; rfl) hz (by simp only [maxLen]; omega) (by omega) (Nat.le_refl _) _ rfl
  rw [Nat.zero_add] at hr1 own1
  have O1 : Only [] w w1 := (Only.drew _ _).trans (Only.of_grown gr1)
  have hg1 : w.heap.size ≤ g1 := by rcases own1.form hz with ⟨g, c, e, h, _⟩; cases e; exact h
  obtain ⟨wB, hwB⟩ : ∃ wB, wB = w1.alloc (.cells #[.string str, .slice (some ⟨g1, 0, none⟩) F.zn cap1] 46) := ⟨_, rfl⟩
  have OB : Only [] w1 wB := by rw [hwB]; exact Only.alloc _ _ _
  have OwB := O1.trans OB
  have LB := H.lc.up OwB (Nat.le_refl rb)
  have olds : ∀ j u, ((List.range (F.ch.n * 2)).map (chCell F.ch))[j]? = some u → wB.cell? ((⟨cb, 0, none⟩ : Addr).add j) = some u := fun j u hu => by
    have hj : j < F.ch.n * 2 := by have := (List.getElem?_eq_some_iff.1 hu).1; simpa using this
    obtain ⟨b, o, e, _, hc⟩ := LB.h (by omega)
    rw [hca] at e; cases e
    have e : (⟨cb, 0, none⟩ : Addr).add j = ⟨cb, 0 + j, none⟩ := by unfold Addr.add; split <;> simp_all
    rw [e, hc j hj]
    simpa [hj] using hu
  have n2 : ∀ j u, [Value.string str, .slice (some ⟨g1, 0, none⟩) F.zn cap1][j]? = some u → wB.cell? ((⟨w1.heap.size, 0, none⟩ : Addr).add j) = some u := by
    rw [hwB]; exact news_at rfl [.string str, .slice (some ⟨g1, 0, none⟩) F.zn cap1] 46
  obtain ⟨v2, w3, hr2, own2, gr2⟩ := run_append_arg_grows (P := Try.prog) wB 44 44 46 i46 z2 2 40 Try.underlying44 hi46 h460 h461 h462 rfl (by omega) ⟨cb, 0, none⟩ F.ch.n F.ch.n ((List.range (F.ch.n * 2)).map (chCell F.ch)) (by simp) olds ⟨w1.heap.size, 0, none⟩ 1 1 [.string str, .slice (some ⟨g1, 0, none⟩) F.zn cap1] rfl n2 (by omega) (by simp only [maxLen]; omega) (by omega)
  obtain ⟨g2, cap2, rfl, hg2, hl2⟩ := own2.form (by omega)
  have O3 : Only [] w w3 := OwB.trans (Only.of_grown gr2)
  have HW : Hid (wB = _) := hwB
  rw [hwB] at hr2
  rw [appd_eq] at hr1 hr2
  have c1a := O1.cell (by simp) c1
  have c1b := fun o => (Only.alloc [] w1 o).cell (by simp) c1a
  have c2a := O1.cell (by simp) c2
  have f3 := (H.rh.keep O3 (by simp)).frozen 1
  have c13 := O3.cell (by simp) c1
  have sc0 := hconv w.drew (Only.drew _ _)
  have sc1 := hconv w1 (O1.mono (by simp))
  have hz0 : (0 : Int) < (F.zn : Int) := by omega
  -- behind the append's store
  obtain ⟨w4, hw4⟩ : ∃ w4, w4 = w3.setCell ⟨rb, 1, none⟩ (.slice (some ⟨g2, 0, none⟩) (F.ch.n + 1) cap2) := ⟨_, rfl⟩
  have R4 := (H.rh.keep O3 (by simp)).set 1 (.slice (some ⟨g2, 0, none⟩) (F.ch.n + 1) cap2)
  rw [← hw4] at R4
  have O34 : Only [rb] w3 w4 := by rw [hw4]; exact (Only.refl _ _).set rb 1 _ (.inl (by simp))
  have k2 : w4.cell? ⟨rb, 2, none⟩ = some (.slice F.ta F.tn F.tc) := R4.cell (i := 2) (by omega)
  have k3 : w4.cell? ⟨rb, 3, none⟩ = some (.slice (some ⟨zb, zo, none⟩) F.zn F.zc) := by
    have h : w4.cell? ⟨rb, 3, none⟩ = some (.slice F.za F.zn F.zc) := R4.cell (i := 3) (by omega)
    rw [hza] at h; exact h
  have fz4 := fun i => R4.frozen i
  have ct := fun w0 => run_cut0 (P := Try.prog) 26 5 F.ta F.tn F.tc 1 Try.underlying26 Try.size5 w0
  have cz := fun w0 => run_cut0 (P := Try.prog) 26 5 (some ⟨zb, zo, none⟩) F.zn F.zc 1 Try.underlying26 Try.size5 w0
  have HW4 : Hid (w4 = _) := hw4
  -- at the end
  obtain ⟨w5, hw5⟩ : ∃ w5, w5 = ((w4.setCell ⟨rb, 2, none⟩ (.slice F.ta 0 F.tc)).setCell ⟨rb, 3, none⟩ (.slice (some ⟨zb, zo, none⟩) 0 F.zc)).drew := ⟨_, rfl⟩
  have O45 : Only [rb] w4 w5 := by rw [hw5]; exact (Only.set2 (Only.refl _ _) rb _ _ _ _ (by simp)).trans (Only.drew _ _)
  have O35 := O34.trans O45
  have O13 : Only [] w1 w3 := OB.trans (Only.of_grown gr2)
  have hs5 := O35.size
  have hs13 := O13.size
  have hs01 := O1.size
  have hwBs : w1.heap.size ≤ wB.heap.size := OB.size
  have hg2r : g2 ≠ rb := by omega
  have FIN : Hid (SealP rb w (.returned (.tuple #[])) w5) := by
    refine ⟨rfl, (O3.mono (by simp)).trans O35, { F with ch := ⟨some ⟨g2, 0, none⟩, F.ch.n + 1, cap2, updA F.ch.T F.ch.n str, updA F.ch.sa F.ch.n (some ⟨g1, 0, none⟩), updA F.ch.sn F.ch.n F.zn, updA F.ch.sc F.ch.n cap1, updA F.ch.s F.ch.n F.zb⟩, tn := 0, zn := 0, za := some ⟨zb, zo, none⟩ }, ⟨?_, ⟨fun _ => ⟨g2, 0, rfl, by omega, fun q hq => ?_⟩, fun i hi => ?_, by show ((F.ch.n + 1 : Nat) : Int) ≤ _; omega, fun i hi => ?_, fun i hi => ?_⟩, fun h => absurd h (by simp), fun h => absurd h (by simp)⟩, rfl, by show F.ch.n + 1 ≤ _; omega, by show 0 ≤ _; omega, fun i hi => ?_⟩
    · rw [hw5]
      refine (((R4.set 2 _).set 3 _).drew).ext (fun i hi => ?_)
      obtain rfl | rfl | rfl | rfl | rfl | rfl : i = 0 ∨ i = 1 ∨ i = 2 ∨ i = 3 ∨ i = 4 ∨ i = 5 := by omega
      all_goals rfl
    · have hq : q < (F.ch.n + 1) * 2 := hq
      have e : (⟨g2, 0, none⟩ : Addr).add q = ⟨g2, 0 + q, none⟩ := by unfold Addr.add; split <;> simp_all
      have key : ∀ u, ((List.range (F.ch.n * 2)).map (chCell F.ch) ++ [Value.string str, .slice (some ⟨g1, 0, none⟩) F.zn cap1])[q]? = some u → w5.cell? ⟨g2, 0 + q, none⟩ = some u := fun u hu => by
        have h := own2.cells (g := g2) rfl q u hu
        rw [e] at h
        exact O35.cell (by simpa using hg2r) h
      apply key
      by_cases h1 : q < F.ch.n * 2
      · rw [List.getElem?_append_left (by simpa using h1)]
        simp only [List.getElem?_map, List.getElem?_range h1, Option.map_some]
        have hne : q / 2 ≠ F.ch.n := by omega
        simp [chCell, updA, hne]
      · rw [List.getElem?_append_right (by simp; omega)]
        have hl : ((List.range (F.ch.n * 2)).map (chCell F.ch)).length = F.ch.n * 2 := by simp
        rw [hl]
        obtain rfl | rfl : q = F.ch.n * 2 ∨ q = F.ch.n * 2 + 1 := by omega
        · rw [chCell0]; simp [updA]
        · rw [chCell1]; simp [updA]
    · have hi : i < F.ch.n + 1 := hi
      show Elems w5 w5.heap.size (updA F.ch.sa F.ch.n (some ⟨g1, 0, none⟩) i) (updA F.ch.sn F.ch.n F.zn i) 1 (bytes (updA F.ch.s F.ch.n F.zb i))
      by_cases e : i = F.ch.n
      · subst e
        rw [updA_at, updA_at, updA_at]
        refine fun _ => ⟨g1, 0, rfl, by omega, fun j hj => ?_⟩
        have hj : j < F.zn := by omega
        have e : (⟨g1, 0, none⟩ : Addr).add j = ⟨g1, 0 + j, none⟩ := by unfold Addr.add; split <;> simp_all
        have h := own1.cells (g := g1) rfl j (bytes F.zb j) (by simp [hj])
        rw [e] at h
        exact O35.cell (by simp; omega) (O13.cell (by simp) h)
      · rw [updA_ne _ _ e, updA_ne _ _ e, updA_ne _ _ e]
        intro h0
        obtain ⟨b, o, e1, hb, hc⟩ := H.lc.g i (by omega) h0
        exact ⟨b, o, e1, by omega, fun j hj => O35.cell (by simp; omega) (O3.cell (by simp) (hc j hj))⟩
    · have hi : i < F.ch.n + 1 := hi
      show ((updA F.ch.T F.ch.n str i).size : Int) ≤ _
      by_cases e : i = F.ch.n
      · subst e; rw [updA_at]; omega
      · rw [updA_ne _ _ e]; exact H.lc.y i (by omega)
    · have hi : i < F.ch.n + 1 := hi
      show ((updA F.ch.sn F.ch.n F.zn i : Nat) : Int) ≤ _
      by_cases e : i = F.ch.n
      · subst e; rw [updA_at]; omega
      · rw [updA_ne _ _ e]; exact H.lc.x i (by omega)
    · have hi : i < F.ch.n + 1 := hi
      show updA F.ch.sn F.ch.n F.zn i ≤ _
      by_cases e : i = F.ch.n
      · subst e; rw [updA_at]; omega
      · rw [updA_ne _ _ e]; exact hx i (by omega)
  have HW5 : Hid (w5 = _) := hw5
  clear hwB n2 olds LB OB OwB n1 hconv hzc hw4 hw5 O45 O35 O13 R4 O34 own1 own2 gr1 gr2
  go_enter Try.func25, Try.ntmps25
  go_upto_region 1 with fail
  go_region
  rw [← HW4.out]
  go_upto_region 2 with fail
  clear hr1 hr2 sc0 sc1 c1a c1b c2a c13 c1 c2 c3
  go_region
  rw [← HW5.out]
  go_wp2
  go_end0
  exact FIN.out
theorem zzSeal18 (F : Bf) (rb cb : Nat) (w : World) (H : BufAt w rb rb F) (hca : F.ch.a = some ⟨cb, 0, none⟩) (hcc : F.ch.c = F.ch.n) (hn : F.ch.n ≤ 65536) (hz2 : F.zn ≤ 1048576) (ht : F.tn ≤ 1048576) (hx : ∀ i, i < F.ch.n → F.ch.sn i ≤ 1048576) :
    Calls Try.prog 18 #[.pointer (some ⟨rb, 0, none⟩)] w fun e w' => SealP rb w e w' := by
  by_cases hz : 0 < F.zn
  · have h := seal25 F rb cb w H hca hcc hn hz hz2 ht hx
    go_enter Try.func18, Try.ntmps18
    go_wp2_with fail
    refine h.mono ?_
    rintro e w' ⟨rfl, h1, h2⟩
    have FIN : Hid (SealP rb w (.returned (.tuple #[])) w') := ⟨rfl, h1, h2⟩
    clear h1 h2
    go_wp2
    go_end0
    exact FIN.out
  · have h0 : F.zn = 0 := by omega
    have h := seal0 F rb w H.rh h0
    go_enter Try.func18, Try.ntmps18
    go_wp2_with fail
    refine h.mono ?_
    rintro e w' ⟨rfl, rfl⟩
    have FIN : Hid (SealP rb w' (.returned (.tuple #[])) w') := ⟨rfl, Only.refl _ _, F, H.up (Only.refl _ _) (Nat.le_of_lt H.rh.lt), h0, by omega, ht, hx⟩
    clear H h0 h
    go_wp2
    go_end0
    exact FIN.out
theorem zzSeal18_again (F : Bf) (rb : Nat) (w : World) (R : Row w rb 48 6 (bcell F)) (hz : F.zn = 0) : Calls Try.prog 18 #[.pointer (some ⟨rb, 0, none⟩)] w fun e w' => DoneP w e w' := by
  have h := seal0 F rb w R hz
  go_enter Try.func18, Try.ntmps18
  go_wp2_with fail
  refine h.mono ?_
  rintro e w' ⟨rfl, rfl⟩
  clear R hz h
  go_wp2
  go_end0
  exact ⟨rfl, rfl⟩
end Go.Proofs.Qxb6602660a
