/-
  layerByLevels: one partition that x holds.
-/
import Derived.Test.Qxb6602564aLvR
namespace Go.Proofs.Qxb6602564a
open Go.RowKit
set_option linter.unusedVariables false
theorem replsD_hit {m : M} {lo hi L : Int} {x p : Nat} {d : Nat → Int} {j : Nat} (h : replsD m lo hi L x p d j = none) : ∀ k, j ≤ k → replsD m lo hi L x p d k = none
  | 0, hk => by rwa [show j = 0 by omega] at h
  | k + 1, hk => by
    by_cases e : j = k + 1
    · rwa [e] at h
    · simp only [replsD, replsD_hit h k (by omega)]
theorem partsD_hit {m : M} {lo hi L : Int} {x : Nat} {d : Nat → Int} {j : Nat} (h : partsD m lo hi L x d j = none) : ∀ k, j ≤ k → partsD m lo hi L x d k = none
  | 0, hk => by rwa [show j = 0 by omega] at h
  | k + 1, hk => by
    by_cases e : j = k + 1
    · rwa [e] at h
    · simp only [partsD, partsD_hit h k (by omega)]
theorem xsD_hit {m : M} {lo hi L : Int} {d : Nat → Int} {j : Nat} (h : xsD m lo hi L d j = none) : ∀ k, j ≤ k → xsD m lo hi L d k = none
  | 0, hk => by rwa [show j = 0 by omega] at h
  | k + 1, hk => by
    by_cases e : j = k + 1
    · rwa [e] at h
    · simp only [xsD, xsD_hit h k (by omega)]
theorem levD_fin {m : M} {flo fhi lo hi : Int} {a : Int} {j : Nat} (h : levD m flo fhi lo hi j = .inr a) : ∀ k, j ≤ k → levD m flo fhi lo hi k = .inr a
  | 0, hk => by rwa [show j = 0 by omega] at h
  | k + 1, hk => by
    by_cases e : j = k + 1
    · rwa [e] at h
    · simp only [levD, levD_fin h k (by omega)]
set_option maxRecDepth 1000000 in
set_option maxHeartbeats 8000000 in
theorem partP (m : M) (c : Ck) (ok : c.ok) (hL : Laid c.w0 c.B0 m) (hW : WF m) (hS : Small m) (tlo thi : Int) (d : Nat → Int) (L x ii p : Nat) (Q : Exit → Act → World → Prop) (w : World)
    (D : DS m c d w) (hLv : L ≤ 262144) (hx : x < m.n1) (hi4 : ii < m.n4) (hf4 : m.f4 ii = (p : Int)) (hp : p < m.n0) (hlt : (ii : Int) < m.f5 (x + 1))
    (c0 c1 c2 c6 c7 c8 c9 c10 c11 c13 c14 c15 c16 c17 c19 c22 c23 c24 c25 c26 c27 c28 c29 c30 c31 c32 c33 c34 c35 c36 c37 c38 c39 c40 c41 c42 c43 c44 c45 c46 c47 c48 c49 c50 c51 c52 c53 c54 c55 c56 c57 c58 c59 c60 c61 c62 c63 c64 c65 c66 c67 c68 c69 c70 c71 c72 c73 c74 c75 c76 c77 c78 c79 c80 c81 c82 c83 c84 c85 c86 c87 c88 c89 c90 c91 c92 c93 c94 c95 c96 c97 c98 c99 c100 c101 c102 c103 c104 c105 c106 c107 c108 c109 c110 c111 c112 c113 c114 c115 c116 c117 c118 c119 c120 c121 c122 c123 c124 c125 c126 c127 c128 c129 c130 c131 c132 c133 c134 c135 c136 c137 c138 c139 c140 c141 c142 c143 c144 c145 c146 c147 c148 c149 c150 c151 c152 c153 c154 c155 c156 c157 c158 c159 c160 c161 c162 c163 c164 c165 c166 c167 c168 c169 c170 c171 c172 c173 c174 c175 c176 c177 c178 c179 c180 c181 c182 c183 c184 c185 c186 c187 c188 c189 c190 c191 c192 c193 c194 c195 c196 c197 c198 c199 c200 c201 c202 c203 c204 c205 c206 c207 c208 c209 c210 c211 c212 c213 c214 c215 c216 c217 c218 c219 c220 c221 c222 c223 c224 c225 : Value)
    (hon : ∀ d' w', partD m tlo thi L x p d = some d' → DS m c d' w' → ∀ u10 u22 u23 u24 u25 u26 u27 u28 u109 u110 u111 u112 u113 u114 u115 u116 u117 u118 u119 u120 u121 u122 u123 u124 u125 u126 u127 u128 u129 u130 u131 u132 u133 u134 u135 u136 u137 u138 u139 u140 u141 u142 u143 u144 u145 u146 u147 u148 u149 u150 u151 u152 u153 u154 u155 u156 u157 u158 u159 u160 u161 u162 u163 u164 u165 u166 u167 u168 u169 u170 u171 u172 u173 u174 u175 u176 u177 u178 u179 u180 u181 u182 u183 u184 u185 u186 u187 u188 u189 u190 u191 u192 u193 u194 u195 u196 u197 u198 u199 u200 u201 u202 u203 u204 u205 u206 u207 u208 u209 u210 u211 u212 u213 u214 u215 u216 u217 u218 u219 u220 u221 u222 u223 : Value, Q .normal ⟨#[c0, c1, c2, .int .i64 tlo, .int .i64 thi, .pointer (some ⟨c.bm, 0, none⟩), c6, c7, c8, c9, u10, c11, .slice (some ⟨c.db, 0, none⟩) m.n1 m.n1, c13, c14, c15, c16, c17, .int .i64 (L : Int), c19, .int .i64 (x : Int), .int .i64 ((ii : Int) + 1), u22, u23, u24, u25, u26, u27, u28, c29, c30, c31, c32, c33, c34, c35, c36, c37, c38, c39, c40, c41, c42, c43, c44, c45, c46, c47, c48, c49, c50, c51, c52, c53, c54, c55, c56, c57, c58, c59, c60, c61, c62, c63, c64, c65, c66, c67, c68, c69, c70, c71, c72, c73, c74, c75, c76, c77, c78, c79, c80, c81, c82, c83, c84, c85, c86, c87, c88, c89, c90, c91, c92, c93, c94, c95, c96, c97, c98, c99, c100, c101, c102, c103, c104, c105, c106, c107, c108, u109, u110, u111, u112, u113, u114, u115, u116, u117, u118, u119, u120, u121, u122, u123, u124, u125, u126, u127, u128, u129, u130, u131, u132, u133, u134, u135, u136, u137, u138, u139, u140, u141, u142, u143, u144, u145, u146, u147, u148, u149, u150, u151, u152, u153, u154, u155, u156, u157, u158, u159, u160, u161, u162, u163, u164, u165, u166, u167, u168, u169, u170, u171, u172, u173, u174, u175, u176, u177, u178, u179, u180, u181, u182, u183, u184, u185, u186, u187, u188, u189, u190, u191, u192, u193, u194, u195, u196, u197, u198, u199, u200, u201, u202, u203, u204, u205, u206, u207, u208, u209, u210, u211, u212, u213, u214, u215, u216, u217, u218, u219, u220, u221, u222, u223, c224, c225], []⟩ w')
    (hhit : ∀ d' w', partD m tlo thi L x p d = none → DS m c d' w' → ∀ u22 u23 u24 u25 u26 u27 u28 u109 u110 u111 u112 u113 u114 u115 u116 u117 u118 u119 u120 u121 u122 u123 u124 u125 u126 u127 u128 u129 u130 u131 u132 u133 u134 u135 u136 u137 u138 u139 u140 u141 u142 u143 u144 u145 u146 u147 u148 u149 u150 u151 u152 u153 u154 u155 u156 u157 u158 u159 u160 u161 u162 u163 u164 u165 u166 u167 u168 u169 u170 u171 u172 u173 u174 u175 u176 u177 u178 u179 u180 u181 u182 u183 u184 u185 u186 u187 u188 u189 u190 u191 u192 u193 u194 u195 u196 u197 u198 u199 u200 u201 u202 u203 u204 u205 u206 u207 u208 u209 u210 u211 u212 u213 u214 u215 u216 u217 u218 u219 u220 u221 u222 u223 : Value, Q .ret ⟨#[c0, c1, c2, .int .i64 tlo, .int .i64 thi, .pointer (some ⟨c.bm, 0, none⟩), c6, c7, c8, c9, .int .i64 ((L : Int) + 1), c11, .slice (some ⟨c.db, 0, none⟩) m.n1 m.n1, c13, c14, c15, c16, c17, .int .i64 (L : Int), c19, .int .i64 (x : Int), .int .i64 (ii : Int), u22, u23, u24, u25, u26, u27, u28, c29, c30, c31, c32, c33, c34, c35, c36, c37, c38, c39, c40, c41, c42, c43, c44, c45, c46, c47, c48, c49, c50, c51, c52, c53, c54, c55, c56, c57, c58, c59, c60, c61, c62, c63, c64, c65, c66, c67, c68, c69, c70, c71, c72, c73, c74, c75, c76, c77, c78, c79, c80, c81, c82, c83, c84, c85, c86, c87, c88, c89, c90, c91, c92, c93, c94, c95, c96, c97, c98, c99, c100, c101, c102, c103, c104, c105, c106, c107, c108, u109, u110, u111, u112, u113, u114, u115, u116, u117, u118, u119, u120, u121, u122, u123, u124, u125, u126, u127, u128, u129, u130, u131, u132, u133, u134, u135, u136, u137, u138, u139, u140, u141, u142, u143, u144, u145, u146, u147, u148, u149, u150, u151, u152, u153, u154, u155, u156, u157, u158, u159, u160, u161, u162, u163, u164, u165, u166, u167, u168, u169, u170, u171, u172, u173, u174, u175, u176, u177, u178, u179, u180, u181, u182, u183, u184, u185, u186, u187, u188, u189, u190, u191, u192, u193, u194, u195, u196, u197, u198, u199, u200, u201, u202, u203, u204, u205, u206, u207, u208, u209, u210, u211, u212, u213, u214, u215, u216, u217, u218, u219, u220, u221, u222, u223, c224, c225], []⟩ w') :
    Code.wp Try.prog (unloop ((Try.f36.body.bind (findBody 10)).getD .skip)) Q ⟨#[c0, c1, c2, .int .i64 tlo, .int .i64 thi, .pointer (some ⟨c.bm, 0, none⟩), c6, c7, c8, c9, c10, c11, .slice (some ⟨c.db, 0, none⟩) m.n1 m.n1, c13, c14, c15, c16, c17, .int .i64 (L : Int), c19, .int .i64 (x : Int), .int .i64 (ii : Int), c22, c23, c24, c25, c26, c27, c28, c29, c30, c31, c32, c33, c34, c35, c36, c37, c38, c39, c40, c41, c42, c43, c44, c45, c46, c47, c48, c49, c50, c51, c52, c53, c54, c55, c56, c57, c58, c59, c60, c61, c62, c63, c64, c65, c66, c67, c68, c69, c70, c71, c72, c73, c74, c75, c76, c77, c78, c79, c80, c81, c82, c83, c84, c85, c86, c87, c88, c89, c90, c91, c92, c93, c94, c95, c96, c97, c98, c99, c100, c101, c102, c103, c104, c105, c106, c107, c108, c109, c110, c111, c112, c113, c114, c115, c116, c117, c118, c119, c120, c121, c122, c123, c124, c125, c126, c127, c128, c129, c130, c131, c132, c133, c134, c135, c136, c137, c138, c139, c140, c141, c142, c143, c144, c145, c146, c147, c148, c149, c150, c151, c152, c153, c154, c155, c156, c157, c158, c159, c160, c161, c162, c163, c164, c165, c166, c167, c168, c169, c170, c171, c172, c173, c174, c175, c176, c177, c178, c179, c180, c181, c182, c183, c184, c185, c186, c187, c188, c189, c190, c191, c192, c193, c194, c195, c196, c197, c198, c199, c200, c201, c202, c203, c204, c205, c206, c207, c208, c209, c210, c211, c212, c213, c214, c215, c216, c217, c218, c219, c220, c221, c222, c223, c224, c225], []⟩ w := by
  have hn0 := hS.s0
  have hn1 := hS.s1
  have hn4 := hS.s4
  have hn6 := hS.s6
  have e5 := hW.e5
  have rm := D.1
  have y0 : w.cell? ⟨c.bm, 0, none⟩ = some (.slice m.a0 m.n0 m.c0) := rm.cell (i := 0) (by omega)
  have y4 : w.cell? ⟨c.bm, 4, none⟩ = some (.slice m.a4 m.n4 m.c4) := rm.cell (i := 4) (by omega)
  have y5 : w.cell? ⟨c.bm, 5, none⟩ = some (.slice m.a5 m.n5 m.c5) := rm.cell (i := 5) (by omega)
  have y7 : w.cell? ⟨c.bm, 7, none⟩ = some (.int .i64 m.k) := rm.cell (i := 7) (by omega)
  have hLr : Laid w c.B0 m := hL.keep D.2.2.1
  obtain ⟨hk1, hk2⟩ := hW.ek (by omega)
  obtain ⟨K, hK⟩ : ∃ K : Nat, m.k = (K : Int) := ⟨m.n6 / m.n0, hk2.symm⟩
  have hKn : m.n0 * K = m.n6 := by
    have h1 : K = m.n6 / m.n0 := by omega
    rw [h1]
    exact Nat.mul_div_cancel' (Nat.dvd_of_mod_eq_zero hk1)
  have hpk : p * K + K ≤ m.n6 := by
    rw [← hKn, ← Nat.succ_mul]
    exact Nat.mul_le_mul_right K hp
  have hKt : m.k.toNat = K := by omega
  have hE1 : (p : Int) * m.k = ((p * K : Nat) : Int) := by rw [hK]; push_cast; rfl
  have hE2 : ((p : Int) + 1) * m.k = ((p * K + K : Nat) : Int) := by rw [hK, Int.add_mul]; push_cast; omega
  have hb11 : 0 ≤ (p : Int) * m.k := by rw [hE1]; omega
  have hb12 : (p : Int) * m.k ≤ 262144 := by rw [hE1]; omega
  have hb21 : 0 ≤ ((p : Int) + 1) * m.k := by rw [hE2]; omega
  have hb22 : ((p : Int) + 1) * m.k ≤ 262144 := by rw [hE2]; omega
  obtain ⟨b5, o5, e5a, _, k5⟩ := hLr.h5 (by omega)
  have ix5 := run_atN (P := Try.prog) 34 21 m.a5 m.n5 m.c5 b5 o5 .i64 (x + 1) Try.underlying34 Try.size21 e5a (by omega)
  rw [show ((x + 1 : Nat) : Int) = (x : Int) + 1 by omega] at ix5
  have d5 := k5 (x + 1) (by omega)
  have q5 := hLr.q5 (x + 1) (by omega)
  obtain ⟨b4, o4, e4a, _, k4⟩ := hLr.h4 (by omega)
  have ix4 := run_atN (P := Try.prog) 34 21 m.a4 m.n4 m.c4 b4 o4 .i64 ii Try.underlying34 Try.size21 e4a hi4
  have d4 := k4 ii hi4
  rw [hf4] at d4
  obtain ⟨b0, o0, e0a, _, k0⟩ := hLr.h0 (by omega)
  have ix0 := run_atN (P := Try.prog) 34 21 m.a0 m.n0 m.c0 b0 o0 .i64 p Try.underlying34 Try.size21 e0a hp
  have d0 := k0 p hp
  have q0 := hLr.q0 p hp
  obtain ⟨q51, q52⟩ := q5
  obtain ⟨q01, q02⟩ := q0
  have HL : Hid (Laid c.w0 c.B0 m) := hL
  have HWF : Hid (WF m) := hW
  have HSm : Hid (Small m) := hS
  have HON : Hid _ := hon
  have HHIT : Hid _ := hhit
  have HKK : Hid (m.k = (K : Int)) := hK
  have HKT : Hid (m.k.toNat = K) := hKt
  have HE1 : Hid ((p : Int) * m.k = ((p * K : Nat) : Int)) := hE1
  have HE2 : Hid (((p : Int) + 1) * m.k = ((p * K + K : Nat) : Int)) := hE2
  have HD : Hid (DS m c d w) := D
  clear hL hW hS hon hhit e5a e4a e0a k5 k4 k0 hk1 hk2 hK hKn hKt hE1 hE2 hf4 D hLr rm e5
  conv => arg 2; whnf
  by_cases hmx : m.f0 p = (x : Int)
  · rw [hmx] at d0 q01 q02
    have e1 : Hid (partD m tlo thi L x p d = replsD m tlo thi L x p d K) := by
      have h : partD m tlo thi L x p d = replsD m tlo thi L x p d K := by simp only [partD, hmx, if_true, HKT.out]
      exact h
    go_wp2
    go_loopw [23] (fun t wr => ∃ (j : Nat) (d' : Nat → Int), j ≤ K ∧ t = .int .i64 ((p * K + j : Nat) : Int) ∧ Hid (replsD m tlo thi L x p d j = some d') ∧ DS m c d' wr) (fun t _ => p * K + K - (intOf t).toNat)
    case atStart => exact ⟨0, d, by omega, by rw [HE1.out]; rfl, rfl, HD.out⟩
    case round =>
      clear ix5 d5 ix4 d4 ix0 d0 y0 y4 y5 y7
      obtain ⟨j, d', hj, rfl, ej, Dj⟩ := hrel
      have y7 : wr.cell? ⟨c.bm, 7, none⟩ = some (.int .i64 m.k) := Dj.1.cell (i := 7) (by omega)
      by_cases hjl : j < K
      · have hvr := HWF.out.re (p * K + j) (by omega)
        obtain ⟨v, hv⟩ : ∃ v : Nat, m.f6 (p * K + j) = (v : Int) := ⟨(m.f6 (p * K + j)).toNat, by omega⟩
        have hnext : Hid (replsD m tlo thi L x p d (j + 1) = replD m tlo thi L x v d') := by
          have h : replsD m tlo thi L x p d (j + 1) = replD m tlo thi L x v d' := by
            simp only [replsD, ej.out, HKT.out, hv, Int.toNat_natCast]
          exact h
        refine replR m c ok HL.out HWF.out HSm.out tlo thi d' L x p (p * K + j) v _ wr Dj hLv hx (by omega) (by omega) hv (by omega) (by rw [HE2.out]; omega) hb21 hb22 _ _ _ _ _ _ _ _ _ _ _ _ _ _ _ _ _ _ _ _ _ _ _ _ _ _ _ _ _ _ _ _ _ _ _ _ _ _ _ _ _ _ _ _ _ _ _ _ _ _ _ _ _ _ _ _ _ _ _ _ _ _ _ _ _ _ _ _ _ _ _ _ _ _ _ _ _ _ _ _ _ _ _ _ _ _ _ _ _ _ _ _ _ _ _ _ _ _ _ _ _ _ _ _ _ _ _ _ _ _ _ _ _ _ _ _ _ _ _ _ _ _ _ _ _ _ _ _ _ _ _ _ _ _ _ _ _ _ _ _ _ _ _ _ _ _ _ _ _ _ _ _ _ _ _ _ _ _ _ _ _ _ _ _ _ _ _ _ _ _ _ _ _ _ _ _ _ _ _ _ _ _ _ _ _ _ _ _ _ _ _ _ _ _ _ _ _ _ _ _ _ _ _ _ _ _ _ _ _ _ _ _ _ _ _ _ _ _ ?_ ?_
        · intro d'' w' h1 D'
          intros
          have HN : Hid (replsD m tlo thi L x p d (j + 1) = some d'') := hnext.out.trans h1
          clear hnext h1 Dj y7
          (try simp only [Exit.then])
          go_roundw
          case rel => (first | exact ⟨j + 1, d'', by omega, congrArg (Value.int .i64) (by omega), HN, D'⟩ | ((repeat apply Exists.intro); exact ⟨⟨j + 1, d'', by omega, congrArg (Value.int .i64) (by omega), HN, D'⟩, rfl⟩))
          case measure => simp only [intOf]; omega
        · intro d'' w' h1 D'
          intros
          have HN : partD m tlo thi L x p d = none := e1.out.trans (replsD_hit (hnext.out.trans h1) K (by omega))
          clear hnext h1 Dj y7
          (try simp only [Exit.inBlock, Exit.then])
          have h := HHIT.out _ _ HN D'
          apply h
      · obtain rfl : j = K := by omega
        have hnl : ¬ ((p * j + j : Nat) : Int) < ((p : Int) + 1) * m.k := by rw [HE2.out]; omega
        go_wp2
        have h := HON.out d' _ (e1.out.trans ej.out) Dj
        apply h
  · have e1 : Hid (partD m tlo thi L x p d = some d) := by
      have h : partD m tlo thi L x p d = some d := by simp only [partD, if_neg hmx]
      exact h
    have hmb : (m.f0 p != (x : Int)) = true := by simpa using hmx
    go_wp2
    have h := HON.out d _ e1.out HD.out
    apply h
end Go.Proofs.Qxb6602564a
