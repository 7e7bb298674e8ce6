/-
  THE WALK OF THE LAW FnRowBufferSealIdempotent.
-/
import Derived.Test.Qxb6602660aRbSeal
import Derived.Test.Qxb6602660aRbGuards
import Derived.Lib.QuietBelow
namespace Go.Proofs.Qxb6602660a
open Go.Sort Go.RowKit
set_option linter.unusedVariables false
def LawP (w : World) (e : Ending) (w' : World) : Prop := e = .returned (.bool true) ∧ Only [] w w'

theorem AtZ.keep1 {n : Nat} {sn : Nat → Nat} {s : Nat → Nat → Int} {Y c : Nat} {wr w1 : World} {k : Nat} {sa : Nat → Option Addr} {sc : Nat → Nat} (H : AtZ n sn s Y wr k sa sc) (O : Only [c] wr w1) (hc : c ≤ Y) : AtZ n sn s Y w1 k sa sc :=
  ⟨H.f, fun i hi => (H.g i hi).keep1 O (fun b o e => by have := H.f i hi b o e; omega) O.size⟩
theorem AtZ.keep {n : Nat} {sn : Nat → Nat} {s : Nat → Nat → Int} {Y : Nat} {wr w1 : World} {k : Nat} {sa : Nat → Option Addr} {sc : Nat → Nat} (H : AtZ n sn s Y wr k sa sc) (O : Only [] wr w1) : AtZ n sn s Y w1 k sa sc :=
  ⟨H.f, fun i hi => (H.g i hi).up O O.size⟩
set_option maxRecDepth 100000 in
set_option maxHeartbeats 4000000 in
theorem law6 (p : Ch) (wd rows ll : Int) (ta za : Option Addr) (tn tc zn zc : Nat) (tb zb : Nat → Int) (B : Nat) (w : World) (hL : LaidC w B p) (hT : Elems w B ta tn 1 (bytes tb)) (hZ : Elems w B za zn 1 (bytes zb))
    (htn : (tn : Int) ≤ 9223372036854775807) (hzn : (zn : Int) ≤ 9223372036854775807) (hB : B ≤ w.heap.size) :
    Calls Try.prog 6 #[.int .i64 wd, .slice p.a p.n p.c, .slice ta tn tc, .slice za zn zc, .int .i64 rows, .int .i64 ll] w fun e w' => LawP w e w' := by
  go_enter Try.func6, Try.ntmps6
  go_wp2_with fail
  refine (zzBytes22 p wd rows ll ta za tn tc zn zc B w hL htn hzn).mono ?_
  rintro e w0 ⟨⟨r, rfl, hF⟩, hw0⟩
  subst hw0
  cases r with
  | false =>
    clear hF
    go_wp2
    go_ret
    exact ⟨rfl, Only.refl _ _⟩
  | true =>
  replace hF := hF rfl
  obtain ⟨w, rfl⟩ : ∃ x, x = w0 := ⟨_, rfl⟩
  go_wp2_with fail
  refine (fits12 p ta za tn tc zn zc B w hL hF).mono ?_
  rintro e w1 ⟨⟨r, rfl, hn⟩, O1⟩
  cases r with
  | false =>
    clear hn
    go_wp2
    go_ret
    exact ⟨rfl, O1⟩
  | true =>
  replace hn := hn rfl
  obtain ⟨_, f2, f3, _, f5⟩ := hF
  have L1 := hL.up O1 (Nat.le_refl B)
  have hs1 := O1.size
  go_wp2_with fail
  refine (copyChunks13 p B w1 L1 (by omega) hn f5).mono ?_
  rintro e w2 ⟨ca, cc, sa, sc, rfl, L2, O2⟩
  have T2 := hT.up (O1.trans O2) (Nat.le_refl B)
  go_wp2_with fail
  refine (copyBytes14 ta tn tc tb B w2 T2 f2).mono ?_
  rintro e w3 ⟨ta', tc', rfl, T3, _, O3⟩
  have Z3 := hZ.up ((O1.trans O2).trans O3) (Nat.le_refl B)
  go_wp2_with fail
  refine (copyBytes14 za zn zc zb B w3 Z3 f3).mono ?_
  rintro e w4 ⟨za', zc', rfl, Z4, _, O4⟩
  have L4 := L2.up (O3.trans O4) (O3.trans O4).size
  have T4 := T3.up O4 O4.size
  clear hT hZ hL L1 L2 T2 T3 Z3
  have hy : ∀ i, i < p.n → ((p.T i).size : Int) ≤ 9223372036854775807 := L4.y
  have hx0 : ∀ i, i < p.n → (p.sn i : Int) ≤ 9223372036854775807 := L4.x
  go_wp2_with fail
  refine (texts16 ⟨ca, p.n, cc, p.T, sa, p.sn, sc, p.s⟩ _ w4 L4 hn).mono ?_
  rintro e w5 ⟨rfl, RT, O5⟩
  have L5 := L4.up O5 O5.size
  dsimp only
  go_wp2_with fail
  refine (sizes17 ⟨ca, p.n, cc, p.T, sa, p.sn, sc, p.s⟩ _ w5 L5 hn f5).mono ?_
  rintro e w6 ⟨sa2, sc2, rfl, RZ, AZ, O6⟩
  dsimp only at RT RZ AZ ⊢
  go_wp2_with fail
  refine (make15 ⟨wd, rows, ll, ⟨none, 0, 0, p.T, sa2, p.sn, sc2, p.s⟩, ta', za', tn, tc', zn, zc', tb, zb⟩ p.n w4.heap.size w5.heap.size w6 hn (RT.keep O6 (by simp)) RZ AZ.g hy hx0 (T4.up (O5.trans O6) (O5.trans O6).size) (Z4.up (O5.trans O6) (O5.trans O6).size)).mono ?_
  rintro e w7 ⟨rb, rfl, hrb, B7, O7⟩
  dsimp only at B7
  have Ow6 : Only [] w w6 := ((((O1.trans O2).trans O3).trans O4).trans O5).trans O6
  have Ow7 := Ow6.trans O7
  have hs6 := Ow6.size
  clear L4 L5 T4 Z4 RT RZ AZ O1 O2 O3 O4 O5 O6 O7 hs1
  go_wp2_with fail
  refine (zzSeal18 _ rb w6.heap.size w7 B7 rfl rfl hn f3 f2 f5).mono ?_
  rintro e w8 ⟨rfl, O8, F, B8, hz0, hm, htm, hsn⟩
  have HZ0 : Hid (F.zn = 0) := hz0
  clear hz0
  have Ow8 : Only [] w w8 := Ow7.trans' O8 (fun i hi => by simp at hi; exact .inr (by omega))
  clear Ow6 Ow7 O8 B7 f2 f3 f5 hn hy hx0 hs6
  go_wp2_with fail
  refine (fields19 F rb w8.heap.size w8 B8 (Nat.le_refl _) hm).mono ?_
  rintro e w9 ⟨rfl, RT, RS, O9⟩
  have H9 := B8.up O9 (Nat.le_refl _)
  have Ow9 := Ow8.trans O9
  have hrb8 := B8.rh.lt
  have hs89 := O9.size
  have lt1 := RT.lt
  have lt2 := RS.lt
  have mk1 := run_make_list (P := Try.prog) 33 9 (.string ByteArray.empty) (.string ByteArray.empty) 1 16 F.ch.n Try.underlying33 Try.info9 rfl (by omega) .i64 .i64 (by omega) (by omega) w9
  rw [Nat.mul_one] at mk1
  have RA := Row.zeros w9 F.ch.n (.string ByteArray.empty) 9
  have OA := Only.alloc [] w9 (.cells (Array.replicate F.ch.n (.string ByteArray.empty)) 9)
  have ZA : (w9.alloc (.cells (Array.replicate F.ch.n (.string ByteArray.empty)) 9)).heap.size = w9.heap.size + 1 := by simp
  generalize w9.alloc (.cells (Array.replicate F.ch.n (.string ByteArray.empty)) 9) = wA at mk1 RA OA ZA
  have mk2 := run_make_list (P := Try.prog) 35 26 (.slice none 0 0) (.slice none 0 0) 1 24 F.ch.n Try.underlying35 Try.info26 rfl (by omega) .i64 .i64 (by omega) (by omega) wA
  rw [Nat.mul_one, ZA] at mk2
  have RB := Row.zeros wA F.ch.n (.slice none 0 0) 26
  rw [ZA] at RB
  have RA2 := RA.alloc (.cells (Array.replicate F.ch.n (.slice none 0 0)) 26)
  have OB := OA.trans (Only.alloc [] wA (.cells (Array.replicate F.ch.n (.slice none 0 0)) 26))
  generalize wA.alloc (.cells (Array.replicate F.ch.n (.slice none 0 0)) 26) = wB at mk2 RB RA2 OB
  have hmm : ((F.ch.n : Int) != (F.ch.n : Int)) = false := by simp
  clear ZA RA OA B8 Ow8 O9
  unfold tup
  go_wp2
  go_loopw [24] (fun i wr => ∃ (k : Nat) (sa : Nat → Option Addr) (sc : Nat → Nat), k ≤ F.ch.n ∧ i = .int .i64 k ∧ Row wr w9.heap.size 9 F.ch.n (fun j => if j < k then .string (F.ch.T j) else .string ByteArray.empty) ∧ Row wr (w9.heap.size + 1) 26 F.ch.n (fun j => if j < k then .slice (sa j) (F.ch.sn j) (sc j) else .slice none 0 0) ∧ AtZ F.ch.n F.ch.sn F.ch.s (w9.heap.size + 1) wr k sa sc ∧ Only [] w9 wr) (fun i _ => F.ch.n - (intOf i).toNat)
  case atStart => exact ⟨0, fun _ => none, fun _ => 0, by omega, rfl, RA2.ext (fun j _ => by simp), RB.ext (fun j _ => by simp), ⟨fun i hi => by omega, fun i hi => by omega⟩, OB⟩
  case round =>
    clear RA2 RB OB mk1 mk2
    obtain ⟨k, sa, sc, hk, rfl, Rt, Rs, Z, O⟩ := hrel
    by_cases hlt : k < F.ch.n
    · have a0 := (RT.keep O (by simp)).cell hlt
      have e0 := Rt.cell hlt
      have f0 := Rt.frozen k
      have OS : Only [w9.heap.size] wr (wr.setCell ⟨w9.heap.size, k, none⟩ (.string (F.ch.T k))) := (Only.refl _ _).set _ _ _ (.inl (by simp))
      have a1 := ((RS.keep O (by simp)).keep OS (by simp; omega)).cell hlt
      have Rs1 := Rs.keep OS (by simp)
      have Z1 := Z.keep1 OS (by omega)
      have Rt1 := (Rt.set k (.string (F.ch.T k))).ext (g := fun j => if j < k + 1 then .string (F.ch.T j) else .string ByteArray.empty) (fun j hj => by
        by_cases e : j = k
        · subst e; rw [upd_at, if_pos (by omega)]
        · rw [upd_ne _ _ e]
          by_cases h1 : j < k
          · rw [if_pos h1, if_pos (by omega)]
          · rw [if_neg h1, if_neg (by omega)])
      have O1 := O.set w9.heap.size k (.string (F.ch.T k)) (.inr (Nat.le_refl _))
      have gk : Elems (wr.setCell ⟨w9.heap.size, k, none⟩ (.string (F.ch.T k))) w8.heap.size (F.ch.sa k) (F.ch.sn k) 1 (bytes (F.ch.s k)) := (H9.lc.g k hlt).up O1 (Nat.le_refl _)
      have xk := hsn k hlt
      have i1 : (k : Int) < (F.ch.n : Int) := by omega
      go_upto_region 20 with fail
      generalize wr.setCell ⟨w9.heap.size, k, none⟩ (.string (F.ch.T k)) = ws at *
      clear e0 f0 a0 OS
      go_wp2_with fail
      refine (copyBytes14 _ _ _ _ _ ws gk xk).mono ?_
      rintro e w10 ⟨a', c', rfl, hE, hf, O10⟩
      have Rs2 := Rs1.keep O10 (by simp)
      have cw := Rs2.cell hlt
      have fw := Rs2.frozen k
      have HF : Hid (Row (w10.setCell ⟨w9.heap.size + 1, k, none⟩ (.slice a' (F.ch.sn k) c')) w9.heap.size 9 F.ch.n (fun j => if j < k + 1 then .string (F.ch.T j) else .string ByteArray.empty) ∧ Row (w10.setCell ⟨w9.heap.size + 1, k, none⟩ (.slice a' (F.ch.sn k) c')) (w9.heap.size + 1) 26 F.ch.n (fun j => if j < k + 1 then .slice (updA sa k a' j) (F.ch.sn j) (updA sc k c' j) else .slice none 0 0) ∧ AtZ F.ch.n F.ch.sn F.ch.s (w9.heap.size + 1) (w10.setCell ⟨w9.heap.size + 1, k, none⟩ (.slice a' (F.ch.sn k) c')) (k + 1) (updA sa k a') (updA sc k c') ∧ Only [] w9 (w10.setCell ⟨w9.heap.size + 1, k, none⟩ (.slice a' (F.ch.sn k) c'))) := by
        refine ⟨(Rt1.keep O10 (by simp)).other _ _ (by omega) _, (Rs2.set k _).ext (fun j hj => ?_), Z1.next O10 ((Only.refl _ _).set _ _ _ (.inl (by simp))) a' c' hf Rs1.lt hE, (O1.trans O10).set _ _ _ (.inr (by omega))⟩
        by_cases e : j = k
        · subst e; rw [upd_at, if_pos (by omega), updA_at, updA_at]
        · rw [upd_ne _ _ e]
          by_cases h1 : j < k
          · rw [if_pos h1, if_pos (by omega), updA_ne _ _ e, updA_ne _ _ e]
          · rw [if_neg h1, if_neg (by omega)]
      clear Rt Rs Rs1 Rs2 Rt1 Z Z1 O O1 O10 hE hf gk a1 H9 RT RS
      go_wp2
      go_roundw
      case rel => exact ⟨k + 1, _, _, by omega, by go_num, HF.out⟩
      case measure => simp [intOf]; omega
    · obtain rfl : k = F.ch.n := by omega
      obtain ⟨w10, rfl⟩ : ∃ x, x = wr := ⟨_, rfl⟩
      replace Rt := Rt.ext (g := fun j => .string (F.ch.T j)) (fun j hj => by rw [if_pos hj])
      replace Rs := Rs.ext (g := fun j => .slice (sa j) (F.ch.sn j) (sc j)) (fun j hj => by rw [if_pos hj])
      have H10 := H9.up O (Nat.le_refl _)
      have Ow10 := Ow9.trans O
      have hs910 := O.size
      clear H9 RT RS Ow9 hlt hk O
      go_wp2_with fail
      refine (copyBytes14 F.ta F.tn F.tc F.tb _ w10 H10.tx htm).mono ?_
      rintro e w11 ⟨pa, pc, rfl, P11, _, O11⟩
      have H11 := H10.up O11 (Nat.le_refl _)
      go_wp2_with fail
      refine (copyBytes14 F.za F.zn F.zc F.zb _ w11 H11.sz (by have := HZ0.out; omega)).mono ?_
      rintro e w12 ⟨qa, qc, rfl, Q12, _, O12⟩
      have H12 := H11.up O12 (Nat.le_refl _)
      go_wp2_with fail
      refine (zzSeal18_again F rb w12 H12.rh HZ0.out).mono ?_
      rintro e wx ⟨rfl, hwx⟩
      subst hwx
      obtain ⟨w12, rfl⟩ : ∃ x, x = wx := ⟨_, rfl⟩
      go_wp2_with fail
      have hs12 := (O11.trans O12).size
      refine (fields19 F rb w8.heap.size w12 H12 (by omega) hm).mono ?_
      rintro e w13 ⟨rfl, RT2, RS2, O13⟩
      have O1013 := (O11.trans O12).trans O13
      have H13 := H12.up O13 (Nat.le_refl _)
      have P13 := P11.up (O12.trans O13) (O12.trans O13).size
      have Q13 := Q12.up O13 O13.size
      have Rt13 := Rt.keep O1013 (by simp)
      have Rs13 := Rs.keep O1013 (by simp)
      have Z13 := Z.keep O1013
      have Ow13 := Ow10.trans O1013
      have hb1 : (F.wd != F.wd) = false := by simp
      have hb2 : (F.rows != F.rows) = false := by simp
      have hb3 : (F.ll != F.ll) = false := by simp
      have hmm2 : ((F.ch.n : Int) != (F.ch.n : Int)) = false := by simp
      clear H10 H11 H12 P11 Q12 Rt Rs Z O11 O12 O13 O1013 Ow10
      unfold tup
      go_wp2
      go_loopw [34] (fun i wr => ∃ k : Nat, k ≤ F.ch.n ∧ i = .int .i64 k ∧ Only [] w13 wr) (fun i _ => F.ch.n - (intOf i).toNat)
      case atStart => exact ⟨0, by omega, rfl, Only.refl _ _⟩
      case round =>
        obtain ⟨k, hk, rfl, O⟩ := hrel
        by_cases hlt : k < F.ch.n
        · have a0 := (RT2.keep O (by simp)).cell hlt
          have b0 := (Rt13.keep O (by simp)).cell hlt
          have i1 : (k : Int) < (F.ch.n : Int) := by omega
          go_upto_region 32 with fail
          go_quiet (fail)
          go_upto_region 34 with fail
          clear a0 b0
          have Oq := O.trans (Only.drewN [] wr nq)
          generalize wr.drewN nq = wq at *
          have a1 := (RS2.keep Oq (by simp)).cell hlt
          have b1 := (Rs13.keep Oq (by simp)).cell hlt
          have E1 := (H13.lc.g k hlt).up Oq (Nat.le_refl _)
          have E2 := (Z13.g k hlt).up Oq (Nat.le_refl _)
          have xk := hsn k hlt
          have g0 := cell_regrown a1
          have g1 := cell_regrown b1
          have cF := fun d os => Calls.regrown_of ((bytesEq21 (F.ch.sa k) (sa k) (F.ch.sn k) (F.ch.sc k) (sc k) (F.ch.s k) _ _ (grow (redrawn wq d) os) (E1.up (Only.of_below (below_regrown wq d os)) (Nat.le_refl _)) (E2.up (Only.of_below (below_regrown wq d os)) (Nat.le_refl _)) xk).mono (fun e w' h => ⟨h.1, h.2.below (Nat.le_refl _) (by simp)⟩))
          clear a1 b1 E1 E2
          refine wp_region_quiet_below (by kernel_rfl) (by kernel_rfl) ?_
          repeat (quiet_step (exact cF _ _))
          refine wpQuiet_nil ?_
          intro _ hw'
          obtain ⟨⟨dq, osq⟩, hw''⟩ := hw'
          have ho1 : Only [] wq (grow (redrawn wq dq) osq) := Only.of_below (below_regrown wq dq osq)
          subst hw''
          generalize grow (redrawn wq dq) osq = wz at *
          clear cF g0 g1
          go_wp2
          go_roundw
          case rel => exact ⟨k + 1, by omega, by go_num, Oq.trans ho1⟩
          case measure => simp [intOf]; omega
        · have P14 := P13.up O O.size
          have Q14 := Q13.up O O.size
          have H14 := H13.up O (Nat.le_refl _)
          have Ow14 := Ow13.trans O
          clear RT2 RS2 Rt13 Rs13 Z13 H13 P13 Q13 Ow13 O hsn
          go_wp2_with fail
          refine (bytesEq21 F.ta pa F.tn F.tc pc F.tb _ _ wr H14.tx P14 htm).mono ?_
          rintro e w15 ⟨rfl, O15⟩
          have Q15 := Q14.up O15 O15.size
          have H15 := H14.up O15 (Nat.le_refl _)
          go_wp2_with fail
          refine (bytesEq21 F.za qa F.zn F.zc qc F.zb _ _ w15 H15.sz Q15 (by have := HZ0.out; omega)).mono ?_
          rintro e w16 ⟨rfl, O16⟩
          have FIN : Hid (Only [] w w16) := (Ow14.trans O15).trans O16
          clear P14 Q14 H14 H15 Q15 Ow14 O15 O16
          go_wp2
          go_ret
          exact ⟨rfl, FIN.out⟩
end Go.Proofs.Qxb6602660a
