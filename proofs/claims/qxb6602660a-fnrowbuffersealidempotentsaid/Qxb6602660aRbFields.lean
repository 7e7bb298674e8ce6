/-
  ZZRowBufferFields: the fields read out.
-/
import Derived.Test.Qxb6602660aRbBuf
namespace Go.Proofs.Qxb6602660a
open Go.RowKit
set_option linter.unusedVariables false

theorem results_tmp7 {fn : Func} {t0 t1 t2 t3 t4 t5 t6 : Tmp} (h : fn.results = #[.tmp t0, .tmp t1, .tmp t2, .tmp t3, .tmp t4, .tmp t5, .tmp t6]) (tmps : Array Value) (P : Program) (w : World) :
    (results fn tmps).run P w = .ok (.tuple #[tmps.getD t0 undef, tmps.getD t1 undef, tmps.getD t2 undef, tmps.getD t3 undef, tmps.getD t4 undef, tmps.getD t5 undef, tmps.getD t6 undef]) w := by
  simp [results, h]
def tup (F : Bf) (s : Nat) : Value := .tuple #[.int .i64 F.wd, .slice (some ⟨s, 0, none⟩) F.ch.n F.ch.n, .slice (some ⟨s + 1, 0, none⟩) F.ch.n F.ch.n, .slice F.ta F.tn F.tc, .slice F.za F.zn F.zc, .int .i64 F.rows, .int .i64 F.ll]
def FieldsP (F : Bf) (w : World) (e : Ending) (w' : World) : Prop :=
  e = .returned (tup F w.heap.size) ∧ Row w' w.heap.size 9 F.ch.n (fun i => .string (F.ch.T i)) ∧ Row w' (w.heap.size + 1) 26 F.ch.n (fun i => .slice (F.ch.sa i) (F.ch.sn i) (F.ch.sc i)) ∧ Only [] w w'
set_option maxRecDepth 100000 in
set_option maxHeartbeats 4000000 in
theorem fields19 (F : Bf) (rb B : Nat) (w : World) (H : BufAt w rb B F) (hB : B ≤ w.heap.size) (hn : F.ch.n ≤ 65537) :
    Calls Try.prog 19 #[.pointer (some ⟨rb, 0, none⟩)] w fun e w' => FieldsP F w e w' := by
  have hrb := H.rh.lt
  have mk1 := run_make_list (P := Try.prog) 33 9 (.string ByteArray.empty) (.string ByteArray.empty) 1 16 F.ch.n Try.underlying33 Try.info9 rfl (by omega) .i64 .i64 (by omega) (by omega) w
  rw [Nat.mul_one] at mk1
  have RA := Row.zeros w F.ch.n (.string ByteArray.empty) 9
  have OA := Only.alloc [] w (.cells (Array.replicate F.ch.n (.string ByteArray.empty)) 9)
  have ZA : (w.alloc (.cells (Array.replicate F.ch.n (.string ByteArray.empty)) 9)).heap.size = w.heap.size + 1 := by simp
  generalize w.alloc (.cells (Array.replicate F.ch.n (.string ByteArray.empty)) 9) = wA at mk1 RA OA ZA
  have mk2 := run_make_list (P := Try.prog) 35 26 (.slice none 0 0) (.slice none 0 0) 1 24 F.ch.n Try.underlying35 Try.info26 rfl (by omega) .i64 .i64 (by omega) (by omega) wA
  rw [Nat.mul_one, ZA] at mk2
  have RZ := Row.zeros wA F.ch.n (.slice none 0 0) 26
  rw [ZA] at RZ
  have RA2 := RA.alloc (.cells (Array.replicate F.ch.n (.slice none 0 0)) 26)
  have OB := OA.trans (Only.alloc [] wA (.cells (Array.replicate F.ch.n (.slice none 0 0)) 26))
  generalize wA.alloc (.cells (Array.replicate F.ch.n (.slice none 0 0)) 26) = wB at mk2 RZ RA2 OB
  have c1 : w.cell? ⟨rb, 1, none⟩ = some (.slice F.ch.a F.ch.n F.ch.c) := H.rh.cell (i := 1) (by omega)
  have c1A := OA.cell (by simp) c1
  clear ZA RA OA
  go_enter Try.func19, Try.ntmps19
  go_wp2
  go_loopw [9] (fun i wr => ∃ k : Nat, k ≤ F.ch.n ∧ i = .int .i64 k ∧ Row wr w.heap.size 9 F.ch.n (fun j => if j < k then .string (F.ch.T j) else .string ByteArray.empty) ∧ Row wr (w.heap.size + 1) 26 F.ch.n (fun j => if j < k then .slice (F.ch.sa j) (F.ch.sn j) (F.ch.sc j) else .slice none 0 0) ∧ Only [] w wr) (fun i _ => F.ch.n - (intOf i).toNat)
  case atStart => exact ⟨0, by omega, rfl, RA2.ext (fun j _ => by simp), RZ.ext (fun j _ => by simp), OB⟩
  case round =>
    clear RA2 RZ OB mk1 mk2 c1A c1
    obtain ⟨k, hk, rfl, RT, RS, O⟩ := hrel
    have Hr := H.up O (Nat.le_refl B)
    have c1 : wr.cell? ⟨rb, 1, none⟩ = some (.slice F.ch.a F.ch.n F.ch.c) := Hr.rh.cell (i := 1) (by omega)
    by_cases hlt : k < F.ch.n
    · obtain ⟨b, o, e, hbB, d0, d1⟩ := Hr.lc.at' hlt
      have hix := run_at (P := Try.prog) 44 46 F.ch.a F.ch.n F.ch.c b o 2 .i64 k Try.underlying44 Try.size46 e hlt
      have e0 := RT.cell hlt
      have f0 := RT.frozen k
      have OS : Only [w.heap.size] wr (wr.setCell ⟨w.heap.size, k, none⟩ (.string (F.ch.T k))) := (Only.refl _ _).set _ _ _ (.inl (by simp))
      have c1s := OS.cell (a := ⟨rb, 1, none⟩) (by simp; omega) c1
      have d1s := OS.cell (a := ⟨b, o + k * 2 + 1, none⟩) (by simp; omega) d1
      have RS1 := RS.keep OS (by simp)
      have e1 := RS1.cell hlt
      have f1 := RS1.frozen k
      have HF : Hid (Row ((wr.setCell ⟨w.heap.size, k, none⟩ (.string (F.ch.T k))).setCell ⟨w.heap.size + 1, k, none⟩ (.slice (F.ch.sa k) (F.ch.sn k) (F.ch.sc k))) w.heap.size 9 F.ch.n (fun j => if j < k + 1 then .string (F.ch.T j) else .string ByteArray.empty) ∧ Row ((wr.setCell ⟨w.heap.size, k, none⟩ (.string (F.ch.T k))).setCell ⟨w.heap.size + 1, k, none⟩ (.slice (F.ch.sa k) (F.ch.sn k) (F.ch.sc k))) (w.heap.size + 1) 26 F.ch.n (fun j => if j < k + 1 then .slice (F.ch.sa j) (F.ch.sn j) (F.ch.sc j) else .slice none 0 0) ∧ Only [] w ((wr.setCell ⟨w.heap.size, k, none⟩ (.string (F.ch.T k))).setCell ⟨w.heap.size + 1, k, none⟩ (.slice (F.ch.sa k) (F.ch.sn k) (F.ch.sc k)))) := by
        refine ⟨((RT.set k _).other _ _ (by omega) _).ext (fun j hj => ?_), (RS1.set k _).ext (fun j hj => ?_), (O.set _ _ _ (.inr (Nat.le_refl _))).set _ _ _ (.inr (by omega))⟩
        · by_cases e : j = k
          · subst e; rw [upd_at, if_pos (by omega)]
          · rw [upd_ne _ _ e]
            by_cases h1 : j < k
            · rw [if_pos h1, if_pos (by omega)]
            · rw [if_neg h1, if_neg (by omega)]
        · by_cases e : j = k
          · subst e; rw [upd_at, if_pos (by omega)]
          · rw [upd_ne _ _ e]
            by_cases h1 : j < k
            · rw [if_pos h1, if_pos (by omega)]
            · rw [if_neg h1, if_neg (by omega)]
      clear H Hr RT RS RS1 O OS e
      go_wp2
      go_roundw
      case rel => exact ⟨k + 1, by omega, by go_num, HF.out⟩
      case measure => simp [intOf]; omega
    · obtain rfl : k = F.ch.n := by omega
      have c0 : wr.cell? ⟨rb, 0, none⟩ = some (.int .i64 F.wd) := Hr.rh.cell (i := 0) (by omega)
      have c2 : wr.cell? ⟨rb, 2, none⟩ = some (.slice F.ta F.tn F.tc) := Hr.rh.cell (i := 2) (by omega)
      have c3 : wr.cell? ⟨rb, 3, none⟩ = some (.slice F.za F.zn F.zc) := Hr.rh.cell (i := 3) (by omega)
      have c4 : wr.cell? ⟨rb, 4, none⟩ = some (.int .i64 F.rows) := Hr.rh.cell (i := 4) (by omega)
      have c5 : wr.cell? ⟨rb, 5, none⟩ = some (.int .i64 F.ll) := Hr.rh.cell (i := 5) (by omega)
      have FIN : Hid (Row wr w.heap.size 9 F.ch.n (fun i => .string (F.ch.T i)) ∧ Row wr (w.heap.size + 1) 26 F.ch.n (fun i => .slice (F.ch.sa i) (F.ch.sn i) (F.ch.sc i)) ∧ Only [] w wr) := ⟨RT.ext (fun j hj => by rw [if_pos hj]), RS.ext (fun j hj => by rw [if_pos hj]), O⟩
      clear H Hr RT RS O
      go_wp2_with fail
      go_quiet (fail)
      go_wp2
      refine bodyPost_ret (results_tmp7 rfl _ _ _) rfl ?_
      exact ⟨rfl, FIN.out.1.drewN _, FIN.out.2.1.drewN _, FIN.out.2.2.trans (Only.drewN _ _ _)⟩
end Go.Proofs.Qxb6602660a
