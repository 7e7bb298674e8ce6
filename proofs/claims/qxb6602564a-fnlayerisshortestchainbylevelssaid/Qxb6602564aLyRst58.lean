/-
  THE WALK OF restart.
-/
import Derived.Test.Qxb6602564aLyRestart
namespace Go.Proofs.Qxb6602564a
open Go.RowKit
set_option linter.unusedVariables false
/-- What the statement of the three stores reads. -/
structure ReT (m : M) (sb fb vb db ib : Nat) (q : Value) (N : Int) (w w' : World) : Prop where
  o : Only [fb, db, ib] w w'
  s : Row w' sb 69 6 (scell m.n1 fb vb db ib q N)
theorem ReT.set {m : M} {sb fb vb db ib : Nat} {q : Value} {N : Int} {w w' : World} (h : ReT m sb fb vb db ib q N w w') (b j : Nat) (v : Value) (hb : b ∈ [fb, db, ib]) (h1 : sb ≠ b) : ReT m sb fb vb db ib q N w (w'.setCell ⟨b, j, none⟩ v) := ⟨h.o.set b j v (.inl hb), h.s.other b j h1 v⟩
theorem ReT.drew {m : M} {sb fb vb db ib : Nat} {q : Value} {N : Int} {w w' : World} (h : ReT m sb fb vb db ib q N w w') : ReT m sb fb vb db ib q N w w'.drew := ⟨h.o.trans (Only.drew _ _), h.s.drew⟩
set_option maxRecDepth 100000 in
set_option maxHeartbeats 8000000 in
theorem restart58 (m : M) (B0 base mb sb fb vb db ib hb : Nat) (q giv : Value) (N : Int) (d i o : Nat → Int) (nq : Nat) (xq : List Value) (gl : List Nat) (w : World) (S : MS w m mb sb fb vb db ib hb q giv N d i o) (hq : w.ownsRow base 3 1 q nq xq) (hg : w.ownsRow base 3 1 giv gl.length (qv gl)) (hgq : Apart giv q)
    (hgl : ∀ k (hk : k < gl.length), gl[k] < m.n1) (hln : gl.length ≤ 1000000) (h0 : B0 ≤ sb ∧ B0 ≤ fb ∧ B0 ≤ vb ∧ B0 ≤ db ∧ B0 ≤ ib) (hb0 : B0 ≤ base) (hbase : base ≤ w.heap.size) (hn : m.n1 ≤ 262144) (hbf : fb < base ∧ db < base ∧ ib < base ∧ vb < base ∧ mb < base ∧ sb < base ∧ hb < base) (hN : 0 ≤ N ∧ N ≤ 1000000) :
    Calls Try.prog 58 #[.pointer (some ⟨sb, 0, none⟩), giv] w fun e w' => RestartP m B0 base mb sb fb vb db ib hb q giv N d i o gl w e w' := by
  obtain ⟨hN1, hN2⟩ := hN
  obtain ⟨qa, qc, rfl, _⟩ := ownsRow_slice hq
  obtain ⟨ga, gc, rfl, hgc⟩ := ownsRow_slice hg
  have z6 := hbf.2.2.2.2.2.1
  have c5 : w.cell? ⟨sb, 5, none⟩ = some (.int .i64 N) := S.rs.cell (i := 5) (by omega)
  have f5 := S.rs.frozen 5
  have c0 : w.cell? ⟨sb, 0, none⟩ = some (.slice qa nq qc) := S.rs.cell (i := 0) (by omega)
  obtain ⟨w1, hw1⟩ : ∃ w1, w1 = w.setCell ⟨sb, 5, none⟩ (.int .i64 (N + 1)) := ⟨_, rfl⟩
  have S1 : MS w1 m mb sb fb vb db ib hb (.slice qa nq qc) (.slice ga gl.length gc) (N + 1) d i o := by
    rw [hw1]
    exact S.setS 5 _ _ _ (fun k hk => by
      obtain rfl | rfl | rfl | rfl | rfl | rfl : k = 0 ∨ k = 1 ∨ k = 2 ∨ k = 3 ∨ k = 4 ∨ k = 5 := by omega
      all_goals rfl)
  have hq1 : w1.ownsRow base 3 1 (.slice qa nq qc) nq xq := by rw [hw1]; exact ownsRow_setCell_below hq (a := ⟨sb, 5, none⟩) z6 _
  have hg1 : w1.ownsRow base 3 1 (.slice ga gl.length gc) gl.length (qv gl) := by rw [hw1]; exact ownsRow_setCell_below hg (a := ⟨sb, 5, none⟩) z6 _
  have b1 : Below B0 w w1 := by rw [hw1]; exact Only.below ((Only.refl [sb] w).set sb 5 _ (.inl (by simp))) (by omega) (by simp; omega)
  have K1 : Kept [sb, fb, db, ib] (.slice qa nq qc) (.slice qa nq qc) w w1 := by rw [hw1]; exact Kept.of_only ((Only.refl _ w).set sb 5 _ (.inl (by simp))) _
  have HOB : Hid ((Value.slice qa 0 qc).ownBlock = (Value.slice qa nq qc).ownBlock) := by cases qa <;> rfl
  have hs1 : w1.heap.size = w.heap.size := by rw [hw1]; simp [World.setCell]
  have HW1 : Hid (w1 = _) := hw1
  have hcut := fun w0 => run_cut0 (P := Try.prog) 26 3 qa nq qc 1 Try.underlying26 Try.size3 w0
  have c01 : w1.cell? ⟨sb, 0, none⟩ = some (.slice qa nq qc) := S1.rs.cell (i := 0) (by omega)
  obtain ⟨i3, hi3, hz30, hz31, hz32⟩ := info_parts Try.inf3
  clear hw1 S hq hg
  by_cases hpos : 0 < gl.length
  · obtain ⟨gb, rfl, hgb, hcell⟩ := hgc hpos
    have hc1 : ∀ j u, (qv gl)[j]? = some u → w1.cell? ((⟨gb, 0, none⟩ : Addr).add j) = some u := fun j u hu => hg1.cells (g := gb) rfl j u hu
    go_enter Try.func58, Try.ntmps58
    go_upto_region 1 with fail
    rw [← HW1.out]
    go_wp2_with (at_builtin; refine wpList_append_lies _ rfl (.tmp 18) (.tmp 19) 26 rfl base 3 i3 (.int .i64 0) 1 8 Try.underlying26 hi3 hz30 hz31 hz32 rfl (by omega) (.slice qa 0 qc) 0 [] rfl (ownsRow_cut0 hq1) ⟨gb, 0, none⟩ gl.length gc (qv gl) rfl (by simp [qv]) hc1 (by simp [qv]; intros; subst_vars; rfl) hpos (by simp only [maxLen]; omega) (by omega) (by omega) _ rfl ?_)
    intro g cap w2 hW2 hgr hat hlt
    try simp only [Nat.zero_add, List.nil_append] at hW2
    have hq0 := ownsRow_cut0 hq1
    have G2 : Below base w1 w2 := by
      refine ⟨hgr.os, hgr.tape, hgr.output, hgr.size, fun k hk => ?_⟩
      exact hgr.block k (by omega) (fun h => by have := (hq0.lt k h.symm).1; omega)
    have S2 := S1.below G2 hbf
    have hg2 : w2.ownsRow base 3 1 (.slice (some ⟨gb, 0, none⟩) gl.length gc) gl.length (qv gl) := hg1.kept hgr (by
      have hob : (Value.slice qa nq qc).ownBlock = (Value.slice qa 0 qc).ownBlock := by cases qa <;> rfl
      rw [← hob]; exact hgq)
    obtain ⟨w3, hw3⟩ : ∃ w3, w3 = w2.setCell ⟨sb, 0, none⟩ (.slice (some ⟨g, 0, none⟩) gl.length cap) := ⟨_, rfl⟩
    have S3 : MS w3 m mb sb fb vb db ib hb (.slice (some ⟨g, 0, none⟩) gl.length cap) (.slice (some ⟨gb, 0, none⟩) gl.length gc) (N + 1) d i o := by
      rw [hw3]
      exact S2.setS 0 _ _ _ (fun k hk => by
        obtain rfl | rfl | rfl | rfl | rfl | rfl : k = 0 ∨ k = 1 ∨ k = 2 ∨ k = 3 ∨ k = 4 ∨ k = 5 := by omega
        all_goals rfl)
    have hq3 : w3.ownsRow base 3 1 (.slice (some ⟨g, 0, none⟩) gl.length cap) gl.length (qv gl) := by rw [hw3]; exact ownsRow_setCell_below hW2 (a := ⟨sb, 0, none⟩) z6 _
    have hg3 : w3.ownsRow base 3 1 (.slice (some ⟨gb, 0, none⟩) gl.length gc) gl.length (qv gl) := by rw [hw3]; exact ownsRow_setCell_below hg2 (a := ⟨sb, 0, none⟩) z6 _
    have hne : gb ≠ g := by
      intro e
      subst e
      have hl := (hg1.lt gb rfl).2
      rcases hat with h | h
      · rcases hgq with h2 | h2
        · cases h2
        · exact h2 (by rw [show (Value.slice qa nq qc).ownBlock = (Value.slice qa 0 qc).ownBlock by cases qa <;> rfl, h]; rfl)
      · omega
    have b3 : Below B0 w w3 := by
      rw [hw3]
      exact (b1.trans (G2.mono hb0)).trans (Only.below ((Only.refl [sb] w2).set sb 0 _ (.inl (by simp))) (by have := G2.size; omega) (by simp; omega))
    have K3 : Kept [sb, fb, db, ib] (.slice qa nq qc) (.slice (some ⟨g, 0, none⟩) gl.length cap) w w3 := by
      have hgr' := hgr
      have hat' := hat
      rw [HOB.out] at hgr' hat'
      rw [hw3]
      exact (K1.trans ((Kept.of_grown hgr' (by rcases hat' with h | h; exact .inl h; exact .inr (by omega))).mono (by simp))).trans (Kept.of_only ((Only.refl _ w2).set sb 0 _ (.inl (by simp))) _)
    have hs3 : base ≤ w3.heap.size := by rw [hw3, show (w2.setCell ⟨sb, 0, none⟩ (.slice (some ⟨g, 0, none⟩) gl.length cap)).heap.size = w2.heap.size by simp [World.setCell]]; have := G2.size; omega
    have k20 : w2.cell? ⟨sb, 0, none⟩ = some (.slice qa nq qc) := S2.rs.cell (i := 0) (by omega)
    have f20 := S2.rs.frozen 0
    have HW3 : Hid (w3 = _) := hw3
    clear hw3 S2 hg2 hW2 hgr hat hlt hq0 hc1 S1 hq1 hg1 G2 hgq hgc hcell
    go_upto_region 2 with fail
    rw [← HW3.out]
    clear k20 f20 c01 hcut c5 f5 c0
    have D0 : ∀ u, dAt d gl 0 u = d u := fun u => by simp [dAt]
    have I0 : ∀ u, iAt (N + 1) i gl 0 u = i u := fun u => by simp [iAt]
    have S3' : MS w3 m mb sb fb vb db ib hb (.slice (some ⟨g, 0, none⟩) gl.length cap) (.slice (some ⟨gb, 0, none⟩) gl.length gc) (N + 1) (dAt d gl 0) (iAt (N + 1) i gl 0) o := by
      rw [show dAt d gl 0 = d from funext D0, show iAt (N + 1) i gl 0 = i from funext I0]; exact S3
    clear D0 I0 S3
    go_wp2
    go_loopw [25] (fun t wr => ∃ k : Nat, k ≤ gl.length ∧ t = .int .i64 k ∧ MS wr m mb sb fb vb db ib hb (.slice (some ⟨g, 0, none⟩) gl.length cap) (.slice (some ⟨gb, 0, none⟩) gl.length gc) (N + 1) (dAt d gl k) (iAt (N + 1) i gl k) o ∧ Below B0 w wr ∧ Only [fb, db, ib] w3 wr) (fun t _ => gl.length - (intOf t).toNat)
    case atStart => exact ⟨0, by omega, rfl, S3', b3, Only.refl _ _⟩
    case round =>
      clear S3' b3
      obtain ⟨k, hk, rfl, Sk, bk, Ok⟩ := hrel
      by_cases hlt : k < gl.length
      · obtain ⟨u, hu⟩ : ∃ u, u = gl[k] := ⟨_, rfl⟩
        have hun : u < m.n1 := by rw [hu]; exact hgl k hlt
        have hS : ∀ k, k ∈ [fb, db, ib] → k < base := by simp; exact ⟨hbf.1, hbf.2.1, hbf.2.2.1⟩
        have hgk := ownsRow_keep hg3 Ok hS
        have cg : wr.cell? ⟨gb, k, none⟩ = some (.int .i64 (u : Int)) := by
          have h := hgk.cells (g := gb) rfl k (.int .i64 (u : Int)) (by simp [qv, hlt, hu])
          have e : (⟨gb, 0, none⟩ : Addr).add k = ⟨gb, k, none⟩ := by unfold Addr.add; split <;> simp_all
          rwa [e] at h
        obtain ⟨rm, rs, ⟨gf, rf⟩, ⟨gv, rv⟩, rd, ri, ⟨gh, rh, hh⟩, fd, fi, di⟩ := Sk
        have n1 := rs.ne rf (by decide)
        have n3 := rs.ne rd (by decide)
        have n4 := rs.ne ri (by decide)
        obtain ⟨Q, hQ⟩ : ∃ Q, Q = Value.slice (some ⟨g, 0, none⟩) gl.length cap := ⟨_, rfl⟩
        have S00 : ReT m sb fb vb db ib (.slice (some ⟨g, 0, none⟩) gl.length cap) (N + 1) wr wr := ⟨Only.refl _ _, rs⟩
        have S0 := S00.drew
        have s1 : ∀ w', ReT m sb fb vb db ib (.slice (some ⟨g, 0, none⟩) gl.length cap) (N + 1) wr w' → w'.cell? ⟨sb, 1, none⟩ = some (.slice (some ⟨fb, 0, none⟩) m.n1 m.n1) := fun w' h => h.s.cell (i := 1) (by omega)
        have s3 : ∀ w', ReT m sb fb vb db ib (.slice (some ⟨g, 0, none⟩) gl.length cap) (N + 1) wr w' → w'.cell? ⟨sb, 3, none⟩ = some (.slice (some ⟨db, 0, none⟩) m.n1 m.n1) := fun w' h => h.s.cell (i := 3) (by omega)
        have s4 : ∀ w', ReT m sb fb vb db ib (.slice (some ⟨g, 0, none⟩) gl.length cap) (N + 1) wr w' → w'.cell? ⟨sb, 4, none⟩ = some (.slice (some ⟨ib, 0, none⟩) m.n1 m.n1) := fun w' h => h.s.cell (i := 4) (by omega)
        have s5 : ∀ w', ReT m sb fb vb db ib (.slice (some ⟨g, 0, none⟩) gl.length cap) (N + 1) wr w' → w'.cell? ⟨sb, 5, none⟩ = some (.int .i64 (N + 1)) := fun w' h => h.s.cell (i := 5) (by omega)
        have cf := rf.cell hun
        have cd := rd.cell hun
        have ci := ri.cell hun
        have ff := rf.frozen
        have fdd := rd.frozen
        have fii := ri.frozen
        have hui : (u : Int) < (m.n1 : Int) := by omega
        have hki : (k : Int) < (gl.length : Int) := by omega
        have O4 : Only [fb, db, ib] wr (((wr.setCell ⟨fb, u, none⟩ (.int .i64 (-1))).setCell ⟨db, u, none⟩ (.int .i64 0)).setCell ⟨ib, u, none⟩ (.int .i64 (N + 1))).drew :=
          ((((Only.refl _ _).set fb _ _ (.inl (by simp))).set db _ _ (.inl (by simp))).set ib _ _ (.inl (by simp))).trans (Only.drew _ _)
        have e1 := rm.ne rf (by decide)
        have e2 := rm.ne rd (by decide)
        have e3 := rm.ne ri (by decide)
        have e4 := rv.ne rf (by decide)
        have e5 := rv.ne rd (by decide)
        have e6 := rv.ne ri (by decide)
        have e7 := rh.ne rf (by decide)
        have e8 := rh.ne rd (by decide)
        have e9 := rh.ne ri (by decide)
        have HF : Hid (MS (((wr.setCell ⟨fb, u, none⟩ (.int .i64 (-1))).setCell ⟨db, u, none⟩ (.int .i64 0)).setCell ⟨ib, u, none⟩ (.int .i64 (N + 1))).drew m mb sb fb vb db ib hb (.slice (some ⟨g, 0, none⟩) gl.length cap) (.slice (some ⟨gb, 0, none⟩) gl.length gc) (N + 1) (dAt d gl (k + 1)) (iAt (N + 1) i gl (k + 1)) o ∧ Below B0 w (((wr.setCell ⟨fb, u, none⟩ (.int .i64 (-1))).setCell ⟨db, u, none⟩ (.int .i64 0)).setCell ⟨ib, u, none⟩ (.int .i64 (N + 1))).drew ∧ Only [fb, db, ib] w3 (((wr.setCell ⟨fb, u, none⟩ (.int .i64 (-1))).setCell ⟨db, u, none⟩ (.int .i64 0)).setCell ⟨ib, u, none⟩ (.int .i64 (N + 1))).drew) := by
          refine ⟨⟨rm.keep O4 (by simp; exact ⟨e1, e2, e3⟩), rs.keep O4 (by simp; exact ⟨n1, n3, n4⟩), ⟨_, (((rf.set u _).other db _ fd _).other ib _ fi _).drew⟩, ⟨_, rv.keep O4 (by simp; exact ⟨e4, e5, e6⟩)⟩, ((((rd.other fb _ (Ne.symm fd) _).set u _).other ib _ di _).drew).ext (fun j hj => ?_), ((((ri.other fb _ (Ne.symm fi) _).other db _ (Ne.symm di) _).set u _).drew).ext (fun j hj => ?_), ⟨gh, rh.keep O4 (by simp; exact ⟨e7, e8, e9⟩), hh⟩, fd, fi, di⟩, bk.trans (Only.below O4 (by have := Ok.size; omega) (by simp; omega)), Ok.trans O4⟩
          · have hx := dAt_next (d := d) hlt j
            rw [← hu] at hx
            show _ = Value.int .i64 _
            rw [← hx]
            by_cases e : j = u
            · subst e; rw [upd_at]; simp
            · rw [upd_ne _ _ e]; simp [nums, e]
          · have hx := iAt_next (N := N + 1) (i := i) hlt j
            rw [← hu] at hx
            show _ = Value.int .i64 _
            rw [← hx]
            by_cases e : j = u
            · subst e; rw [upd_at]; simp
            · rw [upd_ne _ _ e]; simp [nums, e]
        clear hu hgk rm rs rf rv rd ri rh hh bk Ok O4 hq3 hg3 hgl
        go_upto_region 5 with fail
        go_region_held3 (fun w' => ReT m sb fb vb db ib (.slice (some ⟨g, 0, none⟩) gl.length cap) (N + 1) wr w') (first | with_reducible exact S0 | with_reducible assumption | (with_reducible refine ReT.drew ?_; (repeat with_reducible refine ReT.set ?_ _ _ _ (by simp) (by first | exact n1 | exact n3 | exact n4)); with_reducible exact S00)) (fail)
        clear s1 s3 s4 s5 S0 S00 cf cd ci ff fdd fii cg
        go_wp2
        go_roundw
        case rel => exact ⟨k + 1, by omega, by go_num, HF.out⟩
        case measure => simp [intOf]; omega
      · obtain rfl : k = gl.length := by omega
        have hS : ∀ k, k ∈ [fb, db, ib] → k < base := by simp; exact ⟨hbf.1, hbf.2.1, hbf.2.2.1⟩
        have FIN : Hid (RestartP m B0 base mb sb fb vb db ib hb (.slice qa nq qc) (.slice (some ⟨gb, 0, none⟩) gl.length gc) N d i o gl w (.returned (.tuple #[])) wr) := ⟨_, rfl, Sk, ownsRow_keep hq3 Ok hS, ownsRow_keep hg3 Ok hS, .inr (by simp [Value.ownBlock]; exact hne), bk, K3.trans ((Kept.of_only Ok _).mono (fun k hk => by simp at hk ⊢; omega))⟩
        clear Sk bk Ok hq3 hg3
        go_wp2
        go_end0
        exact FIN.out
  · obtain rfl : gl = [] := List.eq_nil_of_length_eq_zero (by omega)
    have hq0 := ownsRow_cut0 hq1
    obtain ⟨w3, hw3⟩ : ∃ w3, w3 = w1.setCell ⟨sb, 0, none⟩ (.slice qa 0 qc) := ⟨_, rfl⟩
    have S3 : MS w3 m mb sb fb vb db ib hb (.slice qa 0 qc) (.slice ga 0 gc) (N + 1) d i o := by
      rw [hw3]
      exact S1.setS 0 _ _ _ (fun k hk => by
        obtain rfl | rfl | rfl | rfl | rfl | rfl : k = 0 ∨ k = 1 ∨ k = 2 ∨ k = 3 ∨ k = 4 ∨ k = 5 := by omega
        all_goals rfl)
    have FIN : Hid (RestartP m B0 base mb sb fb vb db ib hb (.slice qa nq qc) (.slice ga 0 gc) N d i o [] w (.returned (.tuple #[])) w3) := by
      refine ⟨.slice qa 0 qc, rfl, ?_, ?_, ?_, ?_, ?_, ?_⟩
      · have e1 : dAt d [] ([] : List Nat).length = d := by funext u; simp [dAt]
        have e2 : iAt (N + 1) i [] ([] : List Nat).length = i := by funext u; simp [iAt]
        rw [e1, e2]; exact S3
      · rw [hw3]; exact ownsRow_setCell_below hq0 (a := ⟨sb, 0, none⟩) z6 _
      · rw [hw3]; exact ownsRow_setCell_below hg1 (a := ⟨sb, 0, none⟩) z6 _
      · show _ ∨ _
        rw [HOB.out]; exact hgq
      · rw [hw3]
        exact b1.trans (Only.below ((Only.refl [sb] w1).set sb 0 _ (.inl (by simp))) (by omega) (by simp; omega))
      · have h : Kept [sb, fb, db, ib] (.slice qa nq qc) (.slice qa nq qc) w w3 := by rw [hw3]; exact K1.trans (Kept.of_only ((Only.refl _ w1).set sb 0 _ (.inl (by simp))) _)
        exact ⟨h.size, h.blk, .inl HOB.out⟩
    have f01 := S1.rs.frozen 0
    have HW3 : Hid (w3 = _) := hw3
    clear hw3 S3 S1 hq1 hg1 hq0 hgq hgc hgl
    have hz3 : Try.prog.elem 26 = 3 := by simp [Program.elem, Try.underlying26]
    cases qa <;> cases ga
    all_goals
      go_enter Try.func58, Try.ntmps58
      go_upto_region 1 with fail
      rw [← HW1.out]
      go_upto_region 2 with fail
      rw [← HW3.out]
      go_wp2
      go_loopw [25] (fun t wr => t = .int .i64 0 ∧ wr = w3) (fun _ _ => 0)
      case atStart => exact ⟨rfl, rfl⟩
      case round =>
        obtain ⟨rfl, rfl⟩ := hrel
        go_wp2
        go_end0
        exact FIN.out
end Go.Proofs.Qxb6602564a
