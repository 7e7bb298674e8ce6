/-
  ZZLayer, ZZLayerAfter.
-/
import Derived.Test.Qxb6602564aLyLayer
import Derived.Test.Qxb6602564aLyNew51
namespace Go.Proofs.Qxb6602564a
open Go.RowKit
set_option linter.unusedVariables false
def ZzP (a : Int) (w : World) (e : Ending) (w' : World) : Prop := e = .returned (.int .i64 a) ∧ Below w.heap.size w w'
theorem nil_owns (w : World) (base : Nat) : w.ownsRow base 3 1 (.slice none 0 0) 0 [] := ⟨by simp, .inl ⟨rfl, rfl⟩⟩
set_option maxRecDepth 100000 in
set_option maxHeartbeats 4000000 in
theorem zzLayer35 (m : M) (flo fhi tlo thi : Int) (w : World) (hL : Laid w w.heap.size m) (hW : WF m) (hS : Small m) (hcap : m.n4 ≤ m.c4 ∧ m.n6 ≤ m.c6) :
    Calls Try.prog 35 #[.slice m.a0 m.n0 m.c0, .slice m.a1 m.n1 m.c1, .slice m.a2 m.n2 m.c2, .slice m.a3 m.n3 m.c3, .slice m.a4 m.n4 m.c4, .slice m.a5 m.n5 m.c5, .slice m.a6 m.n6 m.c6, .int .i64 m.k, .slice m.a8 m.n8 m.c8, .slice m.a9 m.n9 m.c9, .slice m.a10 m.n10 m.c10, .slice m.a11 m.n11 m.c11, .int .i64 flo, .int .i64 fhi, .int .i64 tlo, .int .i64 thi] w fun e w' => ZzP (ans m flo fhi tlo thi) w e w' := by
  have HC : Hid (m.n4 ≤ m.c4 ∧ m.n6 ≤ m.c6) := hcap
  have HW : Hid (WF m) := hW
  have HS : Hid (Small m) := hS
  have HL : Hid (Laid w w.heap.size m) := hL
  clear hL hW hS hcap
  go_enter Try.func35, Try.ntmps35
  go_wp2_with fail
  refine (masters51 m w HS.out.s1 HS.out.s9).mono ?_
  rintro e w1 ⟨mb, sb, fb, vb, db, ib, hb, rfl, S, O, h1, h2, h3, h4, h5, h6, h7⟩
  have z1 := S.rm.lt
  have z2 := S.rs.lt
  have z3 := S.rd.lt
  have z4 := S.ri.lt
  have z5 : fb < w1.heap.size := by obtain ⟨g, r⟩ := S.rf; exact r.lt
  have z6 : vb < w1.heap.size := by obtain ⟨g, r⟩ := S.rv; exact r.lt
  have z7 : hb < w1.heap.size := by obtain ⟨g, r, _⟩ := S.rh; exact r.lt
  have B1 : Below w.heap.size w w1 := O.below (Nat.le_refl _) (by simp)
  have C := layer52 m mb sb fb vb db ib hb w1.heap.size w.heap.size (.slice none 0 0) (.slice none 0 0) 0 (fun _ => 0) (fun _ => 0) (fun _ => 0) 0 0 [] [] flo fhi tlo thi w1 S (nil_owns _ _) (nil_owns _ _) (.inl rfl) (fun _ _ => Int.le_refl _) (fun _ _ => Int.le_refl _) ⟨by omega, by omega⟩ (HL.out.keep B1) HW.out HS.out HC.out (Nat.le_refl _) O.size ⟨h2, h3, h4, h5, h6, h7, h1⟩ ⟨z5, z3, z4, z6, z1, z2, z7⟩
  clear S O h1 h2 h3 h4 h5 h6 h7 z1 z2 z3 z4 z5 z6 z7
  go_wp2_with fail
  refine C.mono ?_
  rintro e w2 ⟨q, giv, d, i, o, nq, xq, ng, xg, rfl, _, _, _, _, _, _, B2, _⟩
  clear C
  go_wp2
  go_ret
  exact ⟨rfl, B1.trans B2⟩
set_option maxRecDepth 100000 in
set_option maxHeartbeats 4000000 in
theorem zzAfter38 (m : M) (f1 f2 t1 t2 flo fhi tlo thi : Int) (w : World) (hL : Laid w w.heap.size m) (hW : WF m) (hS : Small m) (hcap : m.n4 ≤ m.c4 ∧ m.n6 ≤ m.c6) :
    Calls Try.prog 38 #[.slice m.a0 m.n0 m.c0, .slice m.a1 m.n1 m.c1, .slice m.a2 m.n2 m.c2, .slice m.a3 m.n3 m.c3, .slice m.a4 m.n4 m.c4, .slice m.a5 m.n5 m.c5, .slice m.a6 m.n6 m.c6, .int .i64 m.k, .slice m.a8 m.n8 m.c8, .slice m.a9 m.n9 m.c9, .slice m.a10 m.n10 m.c10, .slice m.a11 m.n11 m.c11, .int .i64 f1, .int .i64 f2, .int .i64 t1, .int .i64 t2, .int .i64 flo, .int .i64 fhi, .int .i64 tlo, .int .i64 thi] w fun e w' => ZzP (ans m flo fhi tlo thi) w e w' := by
  have HC : Hid (m.n4 ≤ m.c4 ∧ m.n6 ≤ m.c6) := hcap
  have HW : Hid (WF m) := hW
  have HS : Hid (Small m) := hS
  have HL : Hid (Laid w w.heap.size m) := hL
  clear hL hW hS hcap
  go_enter Try.func38, Try.ntmps38
  go_wp2_with fail
  refine (masters51 m w HS.out.s1 HS.out.s9).mono ?_
  rintro e w1 ⟨mb, sb, fb, vb, db, ib, hb, rfl, S, O, h1, h2, h3, h4, h5, h6, h7⟩
  have z1 := S.rm.lt
  have z2 := S.rs.lt
  have z3 := S.rd.lt
  have z4 := S.ri.lt
  have z5 : fb < w1.heap.size := by obtain ⟨g, r⟩ := S.rf; exact r.lt
  have z6 : vb < w1.heap.size := by obtain ⟨g, r⟩ := S.rv; exact r.lt
  have z7 : hb < w1.heap.size := by obtain ⟨g, r, _⟩ := S.rh; exact r.lt
  have B1 : Below w.heap.size w w1 := O.below (Nat.le_refl _) (by simp)
  have C := layer52 m mb sb fb vb db ib hb w1.heap.size w.heap.size (.slice none 0 0) (.slice none 0 0) 0 (fun _ => 0) (fun _ => 0) (fun _ => 0) 0 0 [] [] f1 f2 t1 t2 w1 S (nil_owns _ _) (nil_owns _ _) (.inl rfl) (fun _ _ => Int.le_refl _) (fun _ _ => Int.le_refl _) ⟨by omega, by omega⟩ (HL.out.keep B1) HW.out HS.out HC.out (Nat.le_refl _) O.size ⟨h2, h3, h4, h5, h6, h7, h1⟩ ⟨z5, z3, z4, z6, z1, z2, z7⟩
  have hB := O.size
  clear S O
  go_wp2_with fail
  refine C.mono ?_
  rintro e w2 ⟨q, giv, d, i, o, nq, xq, ng, xg, rfl, S2, hq2, hg2, hap2, il2, ol2, B2, hs2⟩
  have C2 := layer52 m mb sb fb vb db ib hb w1.heap.size w.heap.size q giv (0 + 1) d i o nq ng xq xg flo fhi tlo thi w2 S2 hq2 hg2 hap2 il2 ol2 ⟨by omega, by omega⟩ (HL.out.keep (B1.trans B2)) HW.out HS.out HC.out hs2 hB ⟨h2, h3, h4, h5, h6, h7, h1⟩ ⟨z5, z3, z4, z6, z1, z2, z7⟩
  clear C S2 hq2 hg2 hap2 il2 ol2 hs2 h1 h2 h3 h4 h5 h6 h7 z1 z2 z3 z4 z5 z6 z7
  go_wp2_with fail
  refine C2.mono ?_
  rintro e w3 ⟨_, _, _, _, _, _, _, _, _, rfl, _, _, _, _, _, _, B3, _⟩
  clear C2
  go_wp2
  go_ret
  exact ⟨rfl, (B1.trans B2).trans B3⟩
end Go.Proofs.Qxb6602564a
