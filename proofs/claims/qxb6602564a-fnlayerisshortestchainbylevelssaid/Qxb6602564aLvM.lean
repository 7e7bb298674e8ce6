/-
  layerByLevels.
-/
import Derived.Test.Qxb6602564aLvX
import Derived.Test.Qxb6602564aLyZz
namespace Go.Proofs.Qxb6602564a
open Go.RowKit
set_option linter.unusedVariables false
theorem DS.ext {m : M} {c : Ck} {d d' : Nat → Int} {w : World} (h : DS m c d w) (e : ∀ j, j < m.n1 → d j = d' j) : DS m c d' w := ⟨h.1, h.2.1.ext (fun j hj => by simp only [nums]; rw [e j hj]), h.2.2⟩
set_option maxRecDepth 1000000 in
set_option maxHeartbeats 8000000 in
theorem levels36 (m : M) (flo fhi tlo thi : Int) (w : World) (hL : Laid w w.heap.size m) (hW : WF m) (hS : Small m) :
    Calls Try.prog 36 #[.agg #[.slice m.a0 m.n0 m.c0, .slice m.a1 m.n1 m.c1, .slice m.a2 m.n2 m.c2, .slice m.a3 m.n3 m.c3, .slice m.a4 m.n4 m.c4, .slice m.a5 m.n5 m.c5, .slice m.a6 m.n6 m.c6, .int .i64 m.k, .slice m.a8 m.n8 m.c8, .slice m.a9 m.n9 m.c9, .slice m.a10 m.n10 m.c10, .slice m.a11 m.n11 m.c11], .int .i64 flo, .int .i64 fhi, .int .i64 tlo, .int .i64 thi] w fun e w' => ZzP (lev m flo fhi tlo thi) w e w' := by
  have hn1 := hS.s1
  have hn9 := hS.s9
  obtain ⟨wb, hwb⟩ : ∃ wb, wb = w.alloc (.cells #[.slice m.a0 m.n0 m.c0, .slice m.a1 m.n1 m.c1, .slice m.a2 m.n2 m.c2, .slice m.a3 m.n3 m.c3, .slice m.a4 m.n4 m.c4, .slice m.a5 m.n5 m.c5, .slice m.a6 m.n6 m.c6, .int .i64 m.k, .slice m.a8 m.n8 m.c8, .slice m.a9 m.n9 m.c9, .slice m.a10 m.n10 m.c10, .slice m.a11 m.n11 m.c11] 37) := ⟨_, rfl⟩
  have Ob : Only [] w wb := by rw [hwb]; exact Only.alloc _ _ _
  have zb : wb.heap.size = w.heap.size + 1 := by rw [hwb]; simp
  have rb : Row wb w.heap.size 37 12 (acell m) := by rw [hwb]; exact row37 m w
  have a1 : wb.cell? ⟨w.heap.size, 1, none⟩ = some (.slice m.a1 m.n1 m.c1) := rb.cell (i := 1) (by omega)
  have hmk : (Instr.makeSlice 26 (.int .i64 (m.n1 : Int)) (.int .i64 (m.n1 : Int))).run Try.prog wb = .ok (.slice (some ⟨w.heap.size + 1, 0, none⟩) m.n1 m.n1) (wb.alloc (.cells (Array.replicate m.n1 (.int .i64 0)) 3)) := by
    have h := run_make_list (P := Try.prog) 26 3 (.int .i64 0) (.int .i64 0) 1 8 m.n1 Try.underlying26 Try.inf3 rfl (by omega) .i64 .i64 (by omega) (by omega) wb
    rw [zb] at h
    simpa using h
  obtain ⟨wd, hwd⟩ : ∃ wd, wd = wb.alloc (.cells (Array.replicate m.n1 (.int .i64 0)) 3) := ⟨_, rfl⟩
  have Od : Only [] wb wd := by rw [hwd]; exact Only.alloc _ _ _
  have rd : Row wd (w.heap.size + 1) 3 m.n1 (fun _ => .int .i64 0) := by
    have h := Row.zeros wb m.n1 (.int .i64 0) 3
    rw [zb] at h
    rw [hwd]; exact h
  obtain ⟨c, hc⟩ : ∃ c : Ck, c = { bm := w.heap.size, db := w.heap.size + 1, B0 := w.heap.size, w0 := w } := ⟨_, rfl⟩
  have ok : c.ok := by rw [hc]; exact ⟨Nat.le_refl _, Nat.le_succ _⟩
  have D0 : DS m c (fun j => if j < 0 then -1 else 0) wd := by
    rw [hc]
    exact ⟨rb.keep Od (by simp), rd.ext (fun j _ => by simp [nums]), (Ob.trans Od).below (Nat.le_refl _) (by simp), (Ob.trans Od).size⟩
  have HW : Hid (wb = _) := hwb
  have HWD : Hid (wd = _) := hwd
  have HC : Hid (c = _) := hc
  have HL : Hid (Laid w w.heap.size m) := hL
  have HWF : Hid (WF m) := hW
  have HSm : Hid (Small m) := hS
  clear hwb hwd hc hL hW hS rd Od Ob rb zb
  go_enter Try.func36, Try.ntmps36
  go_upto_region 1 with fail
  rw [← HW.out]
  go_upto_region 3 with fail
  rw [← HWD.out]
  clear hmk a1 HW HWD
  go_wp2
  go_loopw [13] (fun t wr => ∃ k : Nat, k ≤ m.n1 ∧ t = .int .i64 k ∧ DS m c (fun j => if j < k then -1 else 0) wr) (fun t _ => m.n1 - (intOf t).toNat)
  case atStart => exact ⟨0, by omega, rfl, D0⟩
  case round =>
    clear D0
    obtain ⟨k, hk, rfl, Dk⟩ := hrel
    by_cases hkl : k < m.n1
    · have zk : wr.cell? ⟨w.heap.size + 1, k, none⟩ = some (.int .i64 0) := by
        have h := Dk.2.1.cell hkl
        rw [HC.out] at h
        simpa [nums] using h
      have rdk : Row wr (w.heap.size + 1) 3 m.n1 (nums (fun j => if j < k then -1 else 0)) := by
        have h := Dk.2.1
        rw [show c.db = w.heap.size + 1 by rw [HC.out]] at h
        exact h
      have fz := rdk.frozen
      clear rdk
      have D1 : DS m c (fun j => if j < k + 1 then -1 else 0) (wr.setCell ⟨w.heap.size + 1, k, none⟩ (.int .i64 (-1))) := by
        have h := (Dk.set ok k (-1)).ext (d' := fun j => if j < k + 1 then -1 else 0) (fun j hj => by
          simp only [setD]
          by_cases e : j = k
          · simp [e]
          · by_cases e2 : j < k
            · simp [e, e2]; omega
            · simp [e, e2]; omega)
        rw [show c.db = w.heap.size + 1 by rw [HC.out]] at h
        exact h
      have hki : (k : Int) < (m.n1 : Int) := by omega
      clear Dk
      go_wp2
      go_roundw
      case rel => exact ⟨k + 1, by omega, by go_num, D1⟩
      case measure => simp [intOf]; omega
    · obtain rfl : k = m.n1 := by omega
      have D2 : DS m c (gvN m flo fhi 0) wr := Dk.ext (fun j hj => by simp only [gvN]; rw [if_pos hj])
      clear Dk
      have y9 : wr.cell? ⟨w.heap.size, 9, none⟩ = some (.slice m.a9 m.n9 m.c9) := by
        have h := D2.1
        rw [show c.bm = w.heap.size by rw [HC.out]] at h
        exact h.cell (i := 9) (by omega)
      clear y9
      go_wp2
      go_loopw [14] (fun t wr => ∃ n : Nat, n ≤ m.n9 ∧ t = .int .i64 n ∧ DS m c (gvN m flo fhi n) wr) (fun t _ => m.n9 - (intOf t).toNat)
      case atStart => exact ⟨0, by omega, rfl, D2⟩
      case round =>
        clear D2
        obtain ⟨n, hn, rfl, Dn⟩ := hrel
        obtain ⟨wo, rfl⟩ : ∃ wo : World, wo = wr := ⟨_, rfl⟩
        have rmo : Row wo w.heap.size 37 12 (acell m) := by
          have h := Dn.1
          rw [show c.bm = w.heap.size by rw [HC.out]] at h
          exact h
        have hLo : Laid wo w.heap.size m := by
          have h := Dn.2.2.1
          rw [HC.out] at h
          exact HL.out.keep h
        have y9 : wo.cell? ⟨w.heap.size, 9, none⟩ = some (.slice m.a9 m.n9 m.c9) := rmo.cell (i := 9) (by omega)
        clear rmo
        by_cases hnl : n < m.n9
        · obtain ⟨b9, o9, e9, _, k9⟩ := hLo.h9 (by omega)
          have ix9 := run_atN (P := Try.prog) 26 3 m.a9 m.n9 m.c9 b9 o9 .i64 n Try.underlying26 Try.size3 e9 hnl
          have d9 := k9 n hnl
          have hni : (n : Int) < (m.n9 : Int) := by omega
          clear e9 k9 hLo
          cases hh : hasP flo fhi (m.f9 n) with
          | false =>
            have eg : Hid (gvN m flo fhi (n + 1) = gvN m flo fhi n) := by
              have h : gvN m flo fhi (n + 1) = gvN m flo fhi n := by simp only [gvN, hh, Bool.false_eq_true, if_false]
              exact h
            have hcase : m.f9 n < flo ∨ (¬ m.f9 n < flo ∧ fhi < m.f9 n) := by
              by_cases h1 : m.f9 n < flo
              · exact .inl h1
              · refine .inr ⟨h1, ?_⟩
                by_cases h2 : m.f9 n ≤ fhi
                · simp [hasP, h2, (by omega : flo ≤ m.f9 n)] at hh
                · omega
            clear hh
            rcases hcase with h1 | ⟨h1, h2⟩
            · go_wp2
              go_roundw
              case rel => (first | exact ⟨n + 1, by omega, by go_num, eg.out ▸ Dn⟩ | ((repeat apply Exists.intro); exact ⟨⟨n + 1, by omega, by go_num, eg.out ▸ Dn⟩, rfl⟩))
              case measure => simp [intOf]; omega
            · go_wp2
              go_roundw
              case rel => (first | exact ⟨n + 1, by omega, by go_num, eg.out ▸ Dn⟩ | ((repeat apply Exists.intro); exact ⟨⟨n + 1, by omega, by go_num, eg.out ▸ Dn⟩, rfl⟩))
              case measure => simp [intOf]; omega
          | true =>
            have eg : Hid (gvN m flo fhi (n + 1) = gvU m n (gvN m flo fhi n) (m.un n)) := by
              have h : gvN m flo fhi (n + 1) = gvU m n (gvN m flo fhi n) (m.un n) := by simp only [gvN, hh, if_true]
              exact h
            have h12 : flo ≤ m.f9 n ∧ m.f9 n ≤ fhi := by simpa [hasP] using hh
            obtain ⟨h1, h2⟩ := h12
            have h1' : ¬ m.f9 n < flo := by omega
            have h2' : ¬ fhi < m.f9 n := by omega
            have hun : m.un n ≤ 262144 := by
              have := HSm.out.su
              rw [HWF.out.e8] at this
              have := un_le_sum m hnl
              omega
            have Dn' : DS m c (gvU m n (gvN m flo fhi n) 0) wo := Dn
            clear hh Dn
            go_wp2
            go_loopw [16] (fun t wr => ∃ k : Nat, k ≤ m.un n ∧ t = .int .i64 k ∧ DS m c (gvU m n (gvN m flo fhi n) k) wr) (fun t _ => m.un n - (intOf t).toNat)
            case atStart => exact ⟨0, by omega, rfl, Dn'⟩
            case round =>
              clear Dn' ix9 d9 y9
              obtain ⟨k, hk, rfl, Dk⟩ := hrel
              have rmr : Row wr w.heap.size 37 12 (acell m) := by
                have h := Dk.1
                rw [show c.bm = w.heap.size by rw [HC.out]] at h
                exact h
              have hLr : Laid wr w.heap.size m := by
                have h := Dk.2.2.1
                rw [HC.out] at h
                exact HL.out.keep h
              obtain ⟨b8, o8, e8, _, k8⟩ := hLr.h8 (by rw [HWF.out.e8]; omega)
              have ix8 := run_atN (P := Try.prog) 35 34 m.a8 m.n8 m.c8 b8 o8 .i64 n Try.underlying35 Try.size34 e8 (by rw [HWF.out.e8]; omega)
              have d8 := k8 n (by rw [HWF.out.e8]; omega)
              have y0 : wr.cell? ⟨w.heap.size, 0, none⟩ = some (.slice m.a0 m.n0 m.c0) := rmr.cell (i := 0) (by omega)
              have y1 : wr.cell? ⟨w.heap.size, 1, none⟩ = some (.slice m.a1 m.n1 m.c1) := rmr.cell (i := 1) (by omega)
              have y2 : wr.cell? ⟨w.heap.size, 2, none⟩ = some (.slice m.a2 m.n2 m.c2) := rmr.cell (i := 2) (by omega)
              have y3 : wr.cell? ⟨w.heap.size, 3, none⟩ = some (.slice m.a3 m.n3 m.c3) := rmr.cell (i := 3) (by omega)
              have y4 : wr.cell? ⟨w.heap.size, 4, none⟩ = some (.slice m.a4 m.n4 m.c4) := rmr.cell (i := 4) (by omega)
              have y5 : wr.cell? ⟨w.heap.size, 5, none⟩ = some (.slice m.a5 m.n5 m.c5) := rmr.cell (i := 5) (by omega)
              have y6 : wr.cell? ⟨w.heap.size, 6, none⟩ = some (.slice m.a6 m.n6 m.c6) := rmr.cell (i := 6) (by omega)
              have y7 : wr.cell? ⟨w.heap.size, 7, none⟩ = some (.int .i64 m.k) := rmr.cell (i := 7) (by omega)
              have y8 : wr.cell? ⟨w.heap.size, 8, none⟩ = some (.slice m.a8 m.n8 m.c8) := rmr.cell (i := 8) (by omega)
              have y9 : wr.cell? ⟨w.heap.size, 9, none⟩ = some (.slice m.a9 m.n9 m.c9) := rmr.cell (i := 9) (by omega)
              have y10 : wr.cell? ⟨w.heap.size, 10, none⟩ = some (.slice m.a10 m.n10 m.c10) := rmr.cell (i := 10) (by omega)
              have y11 : wr.cell? ⟨w.heap.size, 11, none⟩ = some (.slice m.a11 m.n11 m.c11) := rmr.cell (i := 11) (by omega)
              clear e8 k8
              by_cases hkl : k < m.un n
              · have hU := HWF.out.uu n hnl k hkl
                obtain ⟨u, hu⟩ : ∃ u : Nat, m.uf n k = (u : Int) := ⟨(m.uf n k).toNat, by omega⟩
                have hun1 : u < m.n1 := by omega
                have hut : (m.uf n k).toNat = u := by omega
                have hki : (k : Int) < (m.un n : Int) := by omega
                obtain ⟨bu, ou, eu, _, ku⟩ := hLr.hu n (by rw [HWF.out.e8]; omega) (by omega)
                have ixu := run_atN (P := Try.prog) 34 21 (m.ua n) (m.un n) (m.uc n) bu ou .i64 k Try.underlying34 Try.size21 eu hkl
                have du : wr.cell? ⟨bu, ou + k, none⟩ = some (.int .i32 (u : Int)) := by rw [ku k hkl, hu]
                have hsz : w.heap.size ≤ wr.heap.size := by
                  have h := Dk.2.2.2
                  rw [HC.out] at h
                  exact h
                have c53 := mayGive53 m u w.heap.size wr hsz hLr HWF.out hun1
                have HUT : Hid ((m.uf n k).toNat = u) := hut
                clear hu hU eu ku hLr hut hsz rmr
                go_wp2_with fail
                refine c53.mono ?_
                rintro e w4 ⟨rfl, O4⟩
                have D4 := Dk.only O4
                clear c53 Dk O4 ix8 d8 ixu du y0 y1 y2 y3 y4 y5 y6 y7 y8 y9 y10 y11
                cases hgv : give m u with
                | false =>
                  have eg2 : Hid (gvU m n (gvN m flo fhi n) (k + 1) = gvU m n (gvN m flo fhi n) k) := by
                    have h : gvU m n (gvN m flo fhi n) (k + 1) = gvU m n (gvN m flo fhi n) k := by simp only [gvU, HUT.out, hgv, Bool.false_eq_true, if_false]
                    exact h
                  clear hgv
                  go_wp2
                  go_roundw
                  case rel => (first | exact ⟨k + 1, by omega, by go_num, eg2.out ▸ D4⟩ | ((repeat apply Exists.intro); exact ⟨⟨k + 1, by omega, by go_num, eg2.out ▸ D4⟩, rfl⟩))
                  case measure => simp [intOf]; omega
                | true =>
                  have rdk : Row w4 (w.heap.size + 1) 3 m.n1 (nums (gvU m n (gvN m flo fhi n) k)) := by
                    have h := D4.2.1
                    rw [show c.db = w.heap.size + 1 by rw [HC.out]] at h
                    exact h
                  have zu := rdk.cell hun1
                  simp only [nums] at zu
                  have fz := rdk.frozen
                  have hui : (u : Int) < (m.n1 : Int) := by omega
                  have D5 : DS m c (gvU m n (gvN m flo fhi n) (k + 1)) (w4.setCell ⟨w.heap.size + 1, u, none⟩ (.int .i64 0)) := by
                    have h := D4.set ok u 0
                    rw [show c.db = w.heap.size + 1 by rw [HC.out]] at h
                    simp only [gvU, HUT.out, hgv, if_true]
                    exact h
                  clear hgv D4 rdk
                  go_wp2
                  go_roundw
                  case rel => (first | exact ⟨k + 1, by omega, by go_num, D5⟩ | ((repeat apply Exists.intro); exact ⟨⟨k + 1, by omega, by go_num, D5⟩, rfl⟩))
                  case measure => simp [intOf]; omega
              · obtain rfl : k = m.un n := by omega
                have D6 : Hid (DS m c (gvN m flo fhi (n + 1)) wr) := by rw [eg.out]; exact Dk
                clear Dk hLr rmr
                go_wp2
                go_roundw
                case rel => (first | exact ⟨n + 1, by omega, by go_num, D6.out⟩ | ((repeat apply Exists.intro); exact ⟨⟨n + 1, by omega, by go_num, D6.out⟩, rfl⟩))
                case measure => simp [intOf]; omega
        · obtain rfl : n = m.n9 := by omega
          have Dl : DS m c (gvN m flo fhi m.n9) wo := Dn
          clear Dn hLo
          go_wp2
          go_loopw [18] (fun t wr => ∃ (L : Nat) (d : Nat → Int), L ≤ m.n1 ∧ t = .int .i64 L ∧ Hid (levD m flo fhi tlo thi L = .inl d) ∧ DS m c d wr) (fun t _ => m.n1 - (intOf t).toNat)
          case atStart => exact ⟨0, _, by omega, rfl, rfl, Dl⟩
          case round =>
            clear Dl y9
            obtain ⟨L, d, hLl, rfl, eL, DL⟩ := hrel
            obtain ⟨wl, rfl⟩ : ∃ wl : World, wl = wr := ⟨_, rfl⟩
            by_cases hlt : L < m.n1
            · have hLi : (L : Int) < (m.n1 : Int) := by omega
              go_wp2
              go_loopw [19, 20] (fun s t wr => ∃ (x : Nat) (d' : Nat → Int) (sn : Bool), x ≤ m.n1 ∧ s = .bool sn ∧ t = .int .i64 x ∧ Hid (xsD m tlo thi L d x = some (d', sn)) ∧ DS m c d' wr) (fun _ t _ => m.n1 - (intOf t).toNat)
              case atStart => exact ⟨0, d, false, by omega, rfl, rfl, rfl, DL⟩
              case round =>
                clear DL
                obtain ⟨x, d', sn, hxl, rfl, rfl, ex, Dx⟩ := hrel
                by_cases hx : x < m.n1
                · have hnext : Hid (xsD m tlo thi L d (x + 1) = stepX m tlo thi L x d' sn) := by
                    have h : xsD m tlo thi L d (x + 1) = stepX m tlo thi L x d' sn := by simp only [xsD, ex.out, stepX]; rfl
                    exact h
                  have hc := HC.out
                  clear HC
                  subst hc
                  refine headX m _ ok HL.out HWF.out HSm.out tlo thi d' sn L x _ wr Dx (by omega) hx _ _ _ _ _ _ _ _ _ _ _ _ _ _ _ _ _ _ _ _ _ _ _ _ _ _ _ _ _ _ _ _ _ _ _ _ _ _ _ _ _ _ _ _ _ _ _ _ _ _ _ _ _ _ _ _ _ _ _ _ _ _ _ _ _ _ _ _ _ _ _ _ _ _ _ _ _ _ _ _ _ _ _ _ _ _ _ _ _ _ _ _ _ _ _ _ _ _ _ _ _ _ _ _ _ _ _ _ _ _ _ _ _ _ _ _ _ _ _ _ _ _ _ _ _ _ _ _ _ _ _ _ _ _ _ _ _ _ _ _ _ _ _ _ _ _ _ _ _ _ _ _ _ _ _ _ _ _ _ _ _ _ _ _ _ _ _ _ _ _ _ _ _ _ _ _ _ _ _ _ _ _ _ _ _ _ _ _ _ _ _ _ _ _ _ _ _ _ _ _ _ _ _ _ _ _ _ _ _ _ _ _ _ _ _ _ _ _ ?_ ?_
                  · intro d'' sn' w' h1 D'
                    intros
                    have HN : Hid (xsD m tlo thi L d (x + 1) = some (d'', sn')) := hnext.out.trans h1
                    clear hnext h1 Dx
                    (try simp only [Exit.then])
                    go_roundw
                    case rel => (first | exact ⟨x + 1, d'', sn', by omega, rfl, by go_num, HN, D'⟩ | ((repeat apply Exists.intro); exact ⟨⟨x + 1, d'', sn', by omega, rfl, by go_num, HN, D'⟩, rfl⟩))
                    case measure => simp [intOf]; omega
                  · intro d'' w' h1 D'
                    intros
                    have hx1 : xsD m tlo thi L d m.n1 = none := xsD_hit (hnext.out.trans h1) m.n1 (by omega)
                    have hl1 : levD m flo fhi tlo thi (L + 1) = .inr ((L : Int) + 1) := by simp only [levD, eL.out, hx1]
                    have ea : lev m flo fhi tlo thi = (L : Int) + 1 := by simp only [lev, levD_fin hl1 m.n1 (by omega)]
                    have FIN : Hid (ZzP (lev m flo fhi tlo thi) w (.returned (.int .i64 ((L : Int) + 1))) w') := by
                      rw [ea]; exact ⟨rfl, D'.2.2.1⟩
                    clear hnext h1 Dx ea hl1 hx1 D'
                    (try simp only [Exit.inBlock, Exit.then])
                    go_ret
                    exact FIN.out
                · obtain rfl : x = m.n1 := by omega
                  cases sn with
                  | true =>
                    have hl1 : Hid (levD m flo fhi tlo thi (L + 1) = .inl d') := by
                      have h : levD m flo fhi tlo thi (L + 1) = .inl d' := by simp only [levD, eL.out, ex.out, if_true]
                      exact h
                    go_wp2
                    go_roundw
                    case rel => (first | exact ⟨L + 1, d', by omega, by go_num, hl1, Dx⟩ | ((repeat apply Exists.intro); exact ⟨⟨L + 1, d', by omega, by go_num, hl1, Dx⟩, rfl⟩))
                    case measure => simp [intOf]; omega
                  | false =>
                    have hl1 : levD m flo fhi tlo thi (L + 1) = .inr 0 := by simp only [levD, eL.out, ex.out, Bool.false_eq_true, if_false]
                    have ea : lev m flo fhi tlo thi = 0 := by simp only [lev, levD_fin hl1 m.n1 (by omega)]
                    have FIN : Hid (ZzP (lev m flo fhi tlo thi) w (.returned (.int .i64 0)) wr) := by
                      have h := Dx.2.2.1
                      rw [HC.out] at h
                      rw [ea]; exact ⟨rfl, h⟩
                    clear hl1 ea Dx
                    go_wp2
                    go_ret
                    exact FIN.out
            · obtain rfl : L = m.n1 := by omega
              have ea : lev m flo fhi tlo thi = 0 := by simp only [lev, eL.out]
              have FIN : Hid (ZzP (lev m flo fhi tlo thi) w (.returned (.int .i64 0)) wl) := by
                have h := DL.2.2.1
                rw [HC.out] at h
                rw [ea]; exact ⟨rfl, h⟩
              clear ea DL
              go_wp2
              go_ret
              exact FIN.out
end Go.Proofs.Qxb6602564a
