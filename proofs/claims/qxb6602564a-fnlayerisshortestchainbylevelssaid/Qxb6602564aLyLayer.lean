import Derived.Test.Qxb6602564aLyHead
import Derived.Deep.RegionHeld3
import Derived.Deep.CutRange
import Derived.BigQuiet
namespace Go.Proofs.Qxb6602564a
open Go.RowKit
set_option linter.unusedVariables false
set_option maxRecDepth 100000 in
set_option maxHeartbeats 8000000 in
theorem layer52 (m : M) (mb sb fb vb db ib hb base B0 : Nat) (q giv : Value) (N : Int) (d i o : Nat → Int) (nq ng : Nat) (xq xg : List Value) (flo fhi tlo thi : Int) (w : World)
    (S : MS w m mb sb fb vb db ib hb q giv N d i o) (hq : w.ownsRow base 3 1 q nq xq) (hg : w.ownsRow base 3 1 giv ng xg) (hap : Apart giv q) (il : ∀ u, u < m.n1 → i u ≤ N) (ol : ∀ n, n < m.n9 → o n ≤ N) (hN : 0 ≤ N ∧ N ≤ 1000000)
    (hL : Laid w B0 m) (hW : WF m) (hS : Small m) (hcap : m.n4 ≤ m.c4 ∧ m.n6 ≤ m.c6) (hbase : base ≤ w.heap.size) (lb : B0 ≤ base) (l0 : B0 ≤ sb ∧ B0 ≤ fb ∧ B0 ≤ vb ∧ B0 ≤ db ∧ B0 ≤ ib ∧ B0 ≤ hb ∧ B0 ≤ mb)
    (z : fb < base ∧ db < base ∧ ib < base ∧ vb < base ∧ mb < base ∧ sb < base ∧ hb < base) :
    Calls Try.prog 52 #[.pointer (some ⟨mb, 0, none⟩), .agg #[.int .i64 flo, .int .i64 fhi], .agg #[.int .i64 tlo, .int .i64 thi]] w fun e w' => LayP m mb sb fb vb db ib hb base B0 N (ans m flo fhi tlo thi) w e w' := by
  obtain ⟨ga, gc, rfl, _⟩ := ownsRow_slice hg
  have hcut := fun w0 => run_cut0 (P := Try.prog) 26 3 ga ng gc 1 Try.underlying26 Try.size3 w0
  obtain ⟨wb, hwb⟩ : ∃ wb, wb = (w.alloc (.cells #[.int .i64 flo, .int .i64 fhi] 59)).alloc (.cells #[.int .i64 tlo, .int .i64 thi] 59) := ⟨_, rfl⟩
  have Ob : Only [] w wb := by rw [hwb]; exact (Only.alloc _ _ _).trans (Only.alloc _ _ _)
  have zb : wb.heap.size = w.heap.size + 1 + 1 := by rw [hwb]; simp
  have rf : Row wb w.heap.size 59 2 (pairv flo fhi) := by
    rw [hwb]
    exact ((Row.made w #[.int .i64 flo, .int .i64 fhi] 59).alloc _).ext (fun k hk => by
      have hk : k < 2 := hk
      obtain rfl | rfl : k = 0 ∨ k = 1 := by omega
      all_goals rfl)
  have rt : Row wb (w.heap.size + 1) 59 2 (pairv tlo thi) := by
    rw [hwb]
    have h : Row ((w.alloc (.cells #[.int .i64 flo, .int .i64 fhi] 59)).alloc (.cells #[.int .i64 tlo, .int .i64 thi] 59)) (w.alloc (.cells #[.int .i64 flo, .int .i64 fhi] 59)).heap.size 59 2 (pairv tlo thi) := (Row.made (w.alloc (.cells #[.int .i64 flo, .int .i64 fhi] 59)) #[.int .i64 tlo, .int .i64 thi] 59).ext (fun k hk => by
      have hk : k < 2 := hk
      obtain rfl | rfl : k = 0 ∨ k = 1 := by omega
      all_goals rfl)
    rw [World.size_alloc] at h
    exact h
  obtain ⟨w1, hw1⟩ : ∃ w1, w1 = wb.setCell ⟨mb, 19, none⟩ (.slice ga 0 gc) := ⟨_, rfl⟩
  obtain ⟨c, hc⟩ : ∃ c : Cg, c = { mb := mb, sb := sb, fb := fb, vb := vb, db := db, ib := ib, hb := hb, base := base, B0 := B0, q := q, nq := nq, xq := xq, N := N, d := d, i := i, o := o, bf := w.heap.size, bt := w.heap.size + 1, flo := flo, fhi := fhi, tlo := tlo, thi := thi, w0 := w } := ⟨_, rfl⟩
  have ok : c.ok := by rw [hc]; exact ⟨l0.2.2.2.2.2.2, lb, z, by show base ≤ w.heap.size + 1; omega, hbase⟩
  have O1 : Only [mb] wb w1 := by rw [hw1]; exact (Only.refl _ _).set mb 19 _ (.inl (by simp))
  have hob : (Value.slice ga 0 gc).ownBlock = (Value.slice ga ng gc).ownBlock := by cases ga <;> rfl
  have G1 : GS m c [] w1 := by
    have z5 := z.2.2.2.2.1
    have hm : ∀ k, k ∈ [mb] → k < base := by simp; exact z5
    rw [hc]
    refine ⟨.slice ga 0 gc, ?_, ownsRow_keep (ownsRow_cut0 (ownsRow_keep hg Ob (by simp))) O1 hm, ownsRow_keep (ownsRow_keep hq Ob (by simp)) O1 hm, by show _ ∨ _; rw [hob]; exact hap, rf.keep O1 (by simp; omega), rt.keep O1 (by simp; omega), (Ob.below (by show B0 ≤ w.heap.size; omega) (by simp)).trans (O1.below (by show B0 ≤ _; omega) (by simp; exact l0.2.2.2.2.2.2)), by show base ≤ _; have := O1.size; omega⟩
    rw [hw1]
    exact (S.only Ob).setG _
  have c19 : wb.cell? ⟨mb, 19, none⟩ = some (.slice ga ng gc) := (S.rm.keep Ob (by simp)).cell (i := 19) (by omega)
  have f19 := (S.rm.keep Ob (by simp)).frozen 19
  have HW : Hid (wb = _) := hwb
  have HW1 : Hid (w1 = _) := hw1
  have HC : Hid (c = _) := hc
  have HL : Hid (Laid w B0 m) := hL
  have HWF : Hid (WF m) := hW
  have HSm : Hid (Small m) := hS
  have hn9 := hS.s9
  have hn1 := hS.s1
  clear hwb hw1 hc hL hW hS hob O1 rf rt Ob S hq hg hap
  go_enter Try.func52, Try.ntmps52
  go_upto_region 1 with fail
  rw [← HW.out]
  go_upto_region 2 with fail
  rw [← HW1.out]
  have hmb : mb = c.mb := by rw [HC.out]
  have hsb : sb = c.sb := by rw [HC.out]
  have rm1 : ∃ g, Row w1 mb 73 22 (mcell m sb hb g) := by obtain ⟨g, SS, _⟩ := G1; rw [HC.out] at SS; exact ⟨g, SS.rm⟩
  obtain ⟨g1, rm1⟩ := rm1
  have c10 : w1.cell? ⟨mb, 10, none⟩ = some (.slice m.a9 m.n9 m.c9) := rm1.cell (i := 10) (by omega)
  clear rm1 c19 f19 hcut hmb hsb
  go_wp2
  go_loopw [39] (fun t wr => ∃ n : Nat, n ≤ m.n9 ∧ t = .int .i64 n ∧ GS m c (givers m flo fhi n) wr) (fun t _ => m.n9 - (intOf t).toNat)
  case atStart => exact ⟨0, by omega, rfl, G1⟩
  case round =>
    clear G1 c10
    obtain ⟨n, hn, rfl, G⟩ := hrel
    obtain ⟨wo, rfl⟩ : ∃ wo : World, wo = wr := ⟨_, rfl⟩
    have hLr : Laid wo B0 m := by obtain ⟨_, _, _, _, _, _, _, hB, _⟩ := G; rw [HC.out] at hB; exact HL.out.keep hB
    have rmr : ∃ g, Row wo mb 73 22 (mcell m sb hb g) := by obtain ⟨g, SS, _⟩ := G; rw [HC.out] at SS; exact ⟨g, SS.rm⟩
    obtain ⟨gr, rmr⟩ := rmr
    have rbf : Row wo w.heap.size 59 2 (pairv flo fhi) := by obtain ⟨g, _, _, _, _, h, _⟩ := G; rw [HC.out] at h; exact h
    by_cases hlt : n < m.n9
    · have i9 : ∃ b9 o9, m.a9 = some ⟨b9, o9, none⟩ ∧ wo.cell? ⟨b9, o9 + n, none⟩ = some (.int .i64 (m.f9 n)) := by
        obtain ⟨b9, o9, e9, _, k9⟩ := hLr.h9 (by omega)
        exact ⟨b9, o9, e9, k9 n hlt⟩
      obtain ⟨b9, o9, e9, d9⟩ := i9
      have i9 := run_atN (P := Try.prog) 26 3 m.a9 m.n9 m.c9 b9 o9 .i64 n Try.underlying26 Try.size3 e9 hlt
      have x0 : wo.cell? ⟨w.heap.size, 0, none⟩ = some (.int .i64 flo) := rbf.cell (i := 0) (by omega)
      have x1 : wo.cell? ⟨w.heap.size, 1, none⟩ = some (.int .i64 fhi) := rbf.cell (i := 1) (by omega)
      have hlti : (n : Int) < (m.n9 : Int) := by omega
      clear e9
      go_wp2_with fail
      refine (has56 flo fhi (m.f9 n) wo).mono ?_
      rintro e w2 ⟨rfl, O2⟩
      have G2 := G.only ok O2
      clear i9 d9 x0 x1
      cases hh : hasP flo fhi (m.f9 n) with
      | false =>
        have eg : Hid (givers m flo fhi (n + 1) = givers m flo fhi n) := by simp [Hid, givers, hh]
        clear hh G rbf rmr hLr
        go_wp2
        go_roundw
        case rel => exact ⟨n + 1, by omega, by go_num, by rw [eg.out]; exact G2⟩
        case measure => simp [intOf]; omega
      | true =>
        have eg : Hid (givers m flo fhi (n + 1) = givU m n (givers m flo fhi n) (m.un n)) := by simp [Hid, givers, hh]
        clear hh rbf
        have hU : ∃ b8 o8, m.a8 = some ⟨b8, o8, none⟩ ∧ wo.cell? ⟨b8, o8 + n, none⟩ = some (.slice (m.ua n) (m.un n) (m.uc n)) := by
          obtain ⟨b8, o8, e8, _, k8⟩ := hLr.h8 (by rw [HWF.out.e8]; omega)
          exact ⟨b8, o8, e8, k8 n (by rw [HWF.out.e8]; omega)⟩
        obtain ⟨b8, o8, e8, d8⟩ := hU
        have i8 := run_atN (P := Try.prog) 35 34 m.a8 m.n8 m.c8 b8 o8 .i64 n Try.underlying35 Try.size34 e8 (by rw [HWF.out.e8]; omega)
        have d8' := O2.cell (by simp) d8
        have c9 : w2.cell? ⟨mb, 9, none⟩ = some (.slice m.a8 m.n8 m.c8) := (rmr.keep O2 (by simp)).cell (i := 9) (by omega)
        have hun : m.un n ≤ 262144 := by
          have := HSm.out.su
          rw [HWF.out.e8] at this
          have := un_le_sum m hlt
          omega
        have G2' : GS m c (givU m n (givers m flo fhi n) 0) w2 := G2
        clear e8 d8 G G2 rmr hLr O2
        go_wp2
        go_loopw [56] (fun t wr => ∃ k : Nat, k ≤ m.un n ∧ t = .int .i64 k ∧ GS m c (givU m n (givers m flo fhi n) k) wr) (fun t _ => m.un n - (intOf t).toNat)
        case atStart => exact ⟨0, by omega, rfl, G2'⟩
        case round =>
          clear G2' c9 d8' i8
          obtain ⟨k, hk, rfl, G⟩ := hrel
          by_cases hkl : k < m.un n
          · have hlen : (givU m n (givers m flo fhi n) k).length ≤ 262144 := by
              have h1 := givU_len m n (givers m flo fhi n) k
              have h2 := givers_len m flo fhi n
              have h3 := HSm.out.su
              rw [HWF.out.e8] at h3
              have h4 := sum_mono m (j := n + 1) (k := m.n9) (by omega)
              simp only [sumU] at h4
              omega
            have hLr : Laid wr B0 m := by obtain ⟨_, _, _, _, _, _, _, hB, _⟩ := G; rw [HC.out] at hB; exact HL.out.keep hB
            have hU := HWF.out.uu n hlt k hkl
            obtain ⟨u, hu⟩ : ∃ u : Nat, m.uf n k = (u : Int) := ⟨(m.uf n k).toNat, by omega⟩
            have hun1 : u < m.n1 := by omega
            have hU2 : ∃ b8 o8, m.ua n = some ⟨b8, o8, none⟩ ∧ wr.cell? ⟨b8, o8 + k, none⟩ = some (.int .i32 (u : Int)) := by
              obtain ⟨b8, o8, e8, _, k8⟩ := hLr.hu n (by rw [HWF.out.e8]; omega) (by omega)
              exact ⟨b8, o8, e8, by rw [k8 k hkl, hu]⟩
            obtain ⟨b8, o8, e8, d8⟩ := hU2
            have i8 := run_atN (P := Try.prog) 34 21 (m.ua n) (m.un n) (m.uc n) b8 o8 .i64 k Try.underlying34 Try.size21 e8 hkl
            have hut : (m.uf n k).toNat = u := by omega
            have hki : (k : Int) < (m.un n : Int) := by omega
            obtain ⟨giv2, S2, hg2, hq2, hap2, hf2, ht2, hB2, hs2⟩ := G
            have S2c := S2
            rw [HC.out] at S2
            have rm2 := S2.rm
            clear hu hU e8
            go_wp2_with fail
            refine (canGive57 m mb sb hb giv2 u B0 wr rm2 hLr HWF.out hun1).mono ?_
            rintro e w3 ⟨rfl, O3⟩
            clear i8 d8
            cases hgv : give m u with
            | false =>
              have eg2 : Hid (givU m n (givers m flo fhi n) (k + 1) = givU m n (givers m flo fhi n) k) := by simp [Hid, givU, hut, hgv]
              have G3 : GS m c (givU m n (givers m flo fhi n) k) w3 := by
                refine GS.only (w := wr) ?_ ok O3
                exact ⟨giv2, by rw [HC.out]; exact S2, hg2, hq2, hap2, hf2, ht2, hB2, hs2⟩
              clear hgv hut S2 S2c hg2 hq2 hap2 hf2 ht2 hB2 hs2 rm2 hLr
              go_wp2
              go_roundw
              case rel => exact ⟨k + 1, by omega, by go_num, by rw [eg2.out]; exact G3⟩
              case measure => simp [intOf]; omega
            | true =>
              have eg2 : Hid (givU m n (givers m flo fhi n) (k + 1) = givU m n (givers m flo fhi n) k ++ [u]) := by simp [Hid, givU, hut, hgv]
              clear hgv hut hLr
              obtain ⟨ga2, gc2, rfl, _⟩ := ownsRow_slice hg2
              obtain ⟨i3, hi3, hz30, hz31, hz32⟩ := info_parts Try.inf3
              have rm3 := rm2.keep O3 (by simp)
              have k3 : w3.cell? ⟨mb, 19, none⟩ = some (.slice ga2 (givU m n (givers m flo fhi n) k).length gc2) := rm3.cell (i := 19) (by omega)
              have f3 := rm3.frozen 19
              have hg2' : w3.ownsRow base 3 1 (.slice ga2 (givU m n (givers m flo fhi n) k).length gc2) (givU m n (givers m flo fhi n) k).length (qv (givU m n (givers m flo fhi n) k)) := by
                have h := ownsRow_keep hg2 O3 (by simp)
                rw [HC.out] at h
                exact h
              have hsz3 : base ≤ w3.heap.size := by
                have h := hs2
                rw [HC.out] at h
                have := O3.size
                exact Nat.le_trans h this
              have k3a := fun o => (Only.alloc [] w3 o).cell (by simp) k3
              have W1 := fun o => hg2'.alloc o
              have N1 := news_at (w := w3) rfl [Value.int .i64 (u : Int)] 3
              obtain ⟨l, hl⟩ : ∃ l, l = givU m n (givers m flo fhi n) k := ⟨_, rfl⟩
              rw [← hl] at hg2' hg2 k3 W1 hlen S2 S2c hap2 k3a rm3
              have HEL : Hid (l = _) := hl
              clear hl rm2
              go_wp2_with (at_builtin; refine wpList_append_lies _ rfl (.tmp 68) (.tmp 71) 26 rfl base 3 i3 (.int .i64 0) 1 8 Try.underlying26 hi3 hz30 hz31 hz32 rfl (by omega) _ l.length (qv l) rfl (W1 _) ⟨w3.heap.size, 0, none⟩ 1 1 [.int .i64 (u : Int)] rfl rfl N1 (by simp; rfl) (by omega) (by simp only [maxLen]; omega) (by omega) (by simp; omega) _ rfl ?_)
              intro g0 cap0 w4 hW4 hg4 hat4 _
              have z5 := z.2.2.2.2.1
              have G4 : Below base w3 w4 := by
                refine ⟨hg4.os, hg4.tape, hg4.output, Nat.le_trans (by simp) hg4.size, fun k hk => ?_⟩
                rw [hg4.block k (by simp; omega) (fun h => by have := (hg2'.lt k h.symm).1; omega)]
                exact Below.heap_alloc w3 _ k (by omega)
              have rm4 := rm3.below G4 z5
              have k4 : w4.cell? ⟨mb, 19, none⟩ = some (.slice ga2 l.length gc2) := rm4.cell (i := 19) (by omega)
              have f4 := rm4.frozen 19
              have G5 : Hid (GS m c (givU m n (givers m flo fhi n) (k + 1)) (w4.setCell ⟨mb, 19, none⟩ (.slice (some ⟨g0, 0, none⟩) (l.length + 1) cap0))) := by
                rw [eg2.out, ← HEL.out]
                have h := GS.push (w := wr) (w1 := w3.alloc (.cells #[.int .i64 (u : Int)] 3)) (w2 := w4) (cap := cap0) ok S2c hg2 hq2 hap2 hf2 ht2 hB2 hs2 (O3.trans (Only.alloc _ _ _)) hg4 (by rcases hat4 with h | h; exact .inl h; exact .inr (by rw [World.size_alloc]; omega)) (by rw [HC.out]; exact hW4)
                rw [show c.mb = mb by rw [HC.out]] at h
                exact h
              clear S2 S2c hg2 hg2' hq2 hap2 hf2 ht2 hB2 hs2 rm3 rm4 hW4 hg4 hat4 G4 W1 N1 k3 k3a f3
              go_wp2
              go_roundw
              case rel => exact ⟨k + 1, by omega, by go_num, G5.out⟩
              case measure => simp [intOf]; omega
          · obtain rfl : k = m.un n := by omega
            have G' : Hid (GS m c (givers m flo fhi (n + 1)) wr) := by rw [eg.out]; exact G
            clear G
            go_wp2
            go_roundw
            case rel => exact ⟨n + 1, by omega, by go_num, G'.out⟩
            case measure => simp [intOf]; omega
    · obtain rfl : n = m.n9 := by omega
      obtain ⟨giv2, S2, hg2, hq2, hap2, hf2, ht2, hB2, hs2⟩ := G
      rw [HC.out] at S2 hg2 hq2 hap2 hf2 ht2 hB2 hs2
      simp only at S2 hg2 hq2 hap2 hf2 ht2 hB2 hs2
      obtain ⟨ga2, gc2, rfl, _⟩ := ownsRow_slice hg2
      obtain ⟨gl, hgl⟩ : ∃ gl, gl = givers m flo fhi m.n9 := ⟨_, rfl⟩
      rw [← hgl] at S2 hg2 hap2
      have hgn : ∀ k (hk : k < gl.length), gl[k] < m.n1 := fun k hk => givers_lt HWF.out flo fhi m.n9 (Nat.le_refl _) _ (by rw [← hgl]; exact List.getElem_mem hk)
      have hgl2 : gl.length ≤ 1000000 := by
        have h1 := givers_len m flo fhi m.n9
        have h3 := HSm.out.su
        rw [HWF.out.e8] at h3
        rw [hgl]; omega
      have c18 : wo.cell? ⟨mb, 18, none⟩ = some (.pointer (some ⟨sb, 0, none⟩)) := S2.rm.cell (i := 18) (by omega)
      have c19 : wo.cell? ⟨mb, 19, none⟩ = some (.slice ga2 gl.length gc2) := S2.rm.cell (i := 19) (by omega)
      have HGL : Hid (gl = _) := hgl
      clear hgl rmr rbf hlt hLr
      go_wp2_with fail
      refine (restart58 m B0 base mb sb fb vb db ib hb q (.slice ga2 gl.length gc2) N d i o nq xq gl wo S2 hq2 hg2 hap2 hgn hgl2 ⟨l0.1, l0.2.1, l0.2.2.1, l0.2.2.2.1, l0.2.2.2.2.1⟩ lb hs2 hn1 z hN).mono ?_
      rintro e w5 ⟨q5, rfl, S5, hq5, hg5, hap5, B5, K5⟩
      obtain ⟨cx, hcx⟩ : ∃ cx : Cx, cx = { mb := mb, sb := sb, fb := fb, vb := vb, db := db, ib := ib, hb := hb, base := base, B0 := B0, giv := .slice ga2 gl.length gc2, ng := gl.length, xg := qv gl, N := N + 1, bt := w.heap.size + 1, tlo := tlo, thi := thi, w0 := w } := ⟨_, rfl⟩
      have okx : cx.ok := by rw [hcx]; exact ⟨l0, lb, z, by show base ≤ w.heap.size + 1; omega⟩
      have L5 : LS m cx (start m flo fhi) w5 := by
        have hR := Rel.start (d := d) (i := i) (o := o) il ol flo fhi
        have hF := start_fine HWF.out flo fhi
        rw [hcx]
        refine ⟨q5, _, _, o, S5, ?_, ?_, hF, hg5, hap5, K5.row ht2 (by simp only [List.mem_cons, List.not_mem_nil, or_false, not_or]; omega) (ownsRow_not hq2 ht2 (by decide)), hB2.trans B5, by have := B5.size; exact Nat.le_trans hs2 this⟩
        · have e : (start m flo fhi).q = gl := HGL.out.symm
          rw [e]; exact hq5
        · rw [← HGL.out] at hR; exact hR
      have HCX : Hid (cx = _) := hcx
      clear hcx S2 hg2 hq2 hap2 hf2 ht2 hB2 hs2 c18 c19 S5 hq5 hg5 hap5 B5 K5 hgn hgl2 HC ok il ol HW HW1 zb
      go_wp2
      go_loopw [12] (fun t wr => ∃ (h : Nat) (s : Stt), t = .int .i64 h ∧ Hid (headS m tlo thi (start m flo fhi) h = .inl s) ∧ h ≤ m.n1 + sumU m m.n9 ∧ LS m cx s wr) (fun t _ => m.n1 + sumU m m.n9 - (intOf t).toNat)
      case atStart => exact ⟨0, _, rfl, rfl, by omega, L5⟩
      case round =>
        clear L5
        obtain ⟨h, s, rfl, Hh, hle, L⟩ := hrel
        have hcx := HCX.out
        clear HCX
        subst hcx
        have hF : Fine m s := by
          obtain ⟨_, _, _, _, _, _, _, F, _⟩ := L
          exact F
        have hFl := hF.length
        have hsu : m.n1 + sumU m m.n9 ≤ 1000000 := by
          have h3 := HSm.out.su
          rw [HWF.out.e8] at h3
          omega
        by_cases hlt : h < s.q.length
        · obtain ⟨x, hxq⟩ : ∃ x, s.q[h] = x := ⟨_, rfl⟩
          have hnx : Hid (headS m tlo thi (start m flo fhi) (h + 1) = partsS m tlo thi x s ((m.f5 (x + 1)).toNat - (m.f5 x).toNat)) := by
            have h := head_next Hh.out hlt
            rw [hxq] at h
            exact h
          refine head5 m _ okx HL.out HWF.out HSm.out hcap.1 hcap.2 s h x _ wr L hlt hxq _ _ _ _ _ _ _ _ _ _ _ _ _ _ _ _ _ _ _ _ _ _ _ _ _ _ _ _ _ _ _ _ _ _ _ _ _ _ _ _ _ _ _ _ _ _ _ _ _ _ _ _ _ _ _ _ _ _ _ _ _ _ _ _ _ _ _ _ _ _ _ _ _ _ _ _ _ _ _ _ _ _ _ _ _ _ _ _ _ _ _ _ _ _ _ _ _ _ _ _ _ _ _ _ _ _ _ _ _ _ _ _ _ _ _ _ _ _ _ _ _ _ _ _ _ _ _ _ _ _ _ _ _ _ _ _ _ _ _ _ _ _ _ _ _ _ _ _ _ _ _ _ _ _ _ _ _ _ _ _ _ _ _ _ _ _ _ _ _ _ _ _ _ _ _ _ _ _ _ _ _ _ _ _ _ _ _ _ _ _ _ _ _ _ _ _ _ _ _ _ _ _ _ _ _ _ _ _ _ _ _ _ _ _ _ _ _ _ _ _ _ _ _ _ _ _ _ _ _ _ _ _ _ _ _ _ _ _ _ _ _ _ _ _ _ _ _ _ _ _ _ _ _ _ _ _ _ _ _ _ _ _ _ _ _ _ ?_ ?_
          · intro t w' h1 L'
            intros
            have HN : Hid (headS m tlo thi (start m flo fhi) (h + 1) = .inl t) := hnx.out.trans h1
            clear hnx h1 L
            (try simp only [Exit.then])
            go_roundw
            case rel => (first | exact ⟨h + 1, t, by go_num, HN, by omega, L'⟩ | ((repeat apply Exists.intro); exact ⟨⟨h + 1, t, by go_num, HN, by omega, L'⟩, rfl⟩))
            case measure => simp [intOf]; omega
          · intro t w' h1 L'
            intros
            have ea : ans m flo fhi tlo thi = s.dep x + 1 := ans_hit (hnx.out.trans h1) (by omega)
            have FIN : Hid (LayP m mb sb fb vb db ib hb base B0 N (ans m flo fhi tlo thi) w (.returned (.int .i64 (s.dep x + 1))) w') := by
              rw [ea]; exact L'.done (N := N) rfl
            clear hnx h1 L ea L'
            (try simp only [Exit.inBlock, Exit.then])
            go_ret
            exact FIN.out
        · have ea : ans m flo fhi tlo thi = 0 := ans_end Hh.out (by omega) hle
          have FIN : Hid (LayP m mb sb fb vb db ib hb base B0 N (ans m flo fhi tlo thi) w (.returned (.int .i64 0)) wr) := by
            rw [ea]; exact L.done (N := N) rfl
          obtain ⟨q6, y0⟩ : ∃ (q6 : Option Addr × Nat), wr.cell? ⟨sb, 0, none⟩ = some (.slice q6.1 s.q.length q6.2) := by
            obtain ⟨q, d, i, o, S, hq, _⟩ := L
            obtain ⟨qa, qc, rfl, _⟩ := ownsRow_slice hq
            exact ⟨(qa, qc), S.rs.cell (i := 0) (by omega)⟩
          have hni : ¬ (h : Int) < (s.q.length : Int) := by omega
          clear L ea
          go_wp2
          go_ret
          exact FIN.out
end Go.Proofs.Qxb6602564a
