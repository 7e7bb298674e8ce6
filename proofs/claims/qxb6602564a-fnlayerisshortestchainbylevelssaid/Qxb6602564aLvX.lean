/-
  layerByLevels: one unit.
-/
import Derived.Test.Qxb6602564aLvPa
namespace Go.Proofs.Qxb6602564a
open Go.RowKit
set_option linter.unusedVariables false
def stepX (m : M) (lo hi L : Int) (x : Nat) (d : Nat → Int) (sn : Bool) : Lx := if d x = L then (match partsD m lo hi L x d ((m.f5 (x + 1)).toNat - (m.f5 x).toNat) with
      | none => none
      | some d'' => some (d'', true)) else some (d, sn)
set_option maxRecDepth 1000000 in
set_option maxHeartbeats 8000000 in
theorem headX (m : M) (c : Ck) (ok : c.ok) (hL : Laid c.w0 c.B0 m) (hW : WF m) (hS : Small m) (tlo thi : Int) (d : Nat → Int) (sn : Bool) (L x : Nat) (Q : Exit → Act → World → Prop) (w : World)
    (D : DS m c d w) (hLv : L ≤ 262144) (hx : x < m.n1)
    (c0 c1 c2 c6 c7 c8 c9 c10 c13 c14 c15 c16 c17 c21 c22 c23 c24 c25 c26 c27 c28 c29 c30 c31 c32 c33 c34 c35 c36 c37 c38 c39 c40 c41 c42 c43 c44 c45 c46 c47 c48 c49 c50 c51 c52 c53 c54 c55 c56 c57 c58 c59 c60 c61 c62 c63 c64 c65 c66 c67 c68 c69 c70 c71 c72 c73 c74 c75 c76 c77 c78 c79 c80 c81 c82 c83 c84 c85 c86 c87 c88 c89 c90 c91 c92 c93 c94 c95 c96 c97 c98 c99 c100 c101 c102 c103 c104 c105 c106 c107 c108 c109 c110 c111 c112 c113 c114 c115 c116 c117 c118 c119 c120 c121 c122 c123 c124 c125 c126 c127 c128 c129 c130 c131 c132 c133 c134 c135 c136 c137 c138 c139 c140 c141 c142 c143 c144 c145 c146 c147 c148 c149 c150 c151 c152 c153 c154 c155 c156 c157 c158 c159 c160 c161 c162 c163 c164 c165 c166 c167 c168 c169 c170 c171 c172 c173 c174 c175 c176 c177 c178 c179 c180 c181 c182 c183 c184 c185 c186 c187 c188 c189 c190 c191 c192 c193 c194 c195 c196 c197 c198 c199 c200 c201 c202 c203 c204 c205 c206 c207 c208 c209 c210 c211 c212 c213 c214 c215 c216 c217 c218 c219 c220 c221 c222 c223 c224 c225 : Value)
    (hon : ∀ d' sn' w', stepX m tlo thi L x d sn = some (d', sn') → DS m c d' w' → ∀ u10 u21 u22 u23 u24 u25 u26 u27 u28 u92 u93 u94 u95 u96 u97 u98 u99 u100 u101 u102 u103 u104 u105 u106 u107 u108 u109 u110 u111 u112 u113 u114 u115 u116 u117 u118 u119 u120 u121 u122 u123 u124 u125 u126 u127 u128 u129 u130 u131 u132 u133 u134 u135 u136 u137 u138 u139 u140 u141 u142 u143 u144 u145 u146 u147 u148 u149 u150 u151 u152 u153 u154 u155 u156 u157 u158 u159 u160 u161 u162 u163 u164 u165 u166 u167 u168 u169 u170 u171 u172 u173 u174 u175 u176 u177 u178 u179 u180 u181 u182 u183 u184 u185 u186 u187 u188 u189 u190 u191 u192 u193 u194 u195 u196 u197 u198 u199 u200 u201 u202 u203 u204 u205 u206 u207 u208 u209 u210 u211 u212 u213 u214 u215 u216 u217 u218 u219 u220 u221 u222 u223 : Value, Q .normal ⟨#[c0, c1, c2, .int .i64 tlo, .int .i64 thi, .pointer (some ⟨c.bm, 0, none⟩), c6, c7, c8, c9, u10, .int .i64 (m.n1 : Int), .slice (some ⟨c.db, 0, none⟩) m.n1 m.n1, c13, c14, c15, c16, c17, .int .i64 (L : Int), .bool sn', .int .i64 ((x : Int) + 1), u21, u22, u23, u24, u25, u26, u27, u28, c29, c30, c31, c32, c33, c34, c35, c36, c37, c38, c39, c40, c41, c42, c43, c44, c45, c46, c47, c48, c49, c50, c51, c52, c53, c54, c55, c56, c57, c58, c59, c60, c61, c62, c63, c64, c65, c66, c67, c68, c69, c70, c71, c72, c73, c74, c75, c76, c77, c78, c79, c80, c81, c82, c83, c84, c85, c86, c87, c88, c89, c90, c91, u92, u93, u94, u95, u96, u97, u98, u99, u100, u101, u102, u103, u104, u105, u106, u107, u108, u109, u110, u111, u112, u113, u114, u115, u116, u117, u118, u119, u120, u121, u122, u123, u124, u125, u126, u127, u128, u129, u130, u131, u132, u133, u134, u135, u136, u137, u138, u139, u140, u141, u142, u143, u144, u145, u146, u147, u148, u149, u150, u151, u152, u153, u154, u155, u156, u157, u158, u159, u160, u161, u162, u163, u164, u165, u166, u167, u168, u169, u170, u171, u172, u173, u174, u175, u176, u177, u178, u179, u180, u181, u182, u183, u184, u185, u186, u187, u188, u189, u190, u191, u192, u193, u194, u195, u196, u197, u198, u199, u200, u201, u202, u203, u204, u205, u206, u207, u208, u209, u210, u211, u212, u213, u214, u215, u216, u217, u218, u219, u220, u221, u222, u223, c224, c225], []⟩ w')
    (hhit : ∀ d' w', stepX m tlo thi L x d sn = none → DS m c d' w' → ∀ u19 u21 u22 u23 u24 u25 u26 u27 u28 u92 u93 u94 u95 u96 u97 u98 u99 u100 u101 u102 u103 u104 u105 u106 u107 u108 u109 u110 u111 u112 u113 u114 u115 u116 u117 u118 u119 u120 u121 u122 u123 u124 u125 u126 u127 u128 u129 u130 u131 u132 u133 u134 u135 u136 u137 u138 u139 u140 u141 u142 u143 u144 u145 u146 u147 u148 u149 u150 u151 u152 u153 u154 u155 u156 u157 u158 u159 u160 u161 u162 u163 u164 u165 u166 u167 u168 u169 u170 u171 u172 u173 u174 u175 u176 u177 u178 u179 u180 u181 u182 u183 u184 u185 u186 u187 u188 u189 u190 u191 u192 u193 u194 u195 u196 u197 u198 u199 u200 u201 u202 u203 u204 u205 u206 u207 u208 u209 u210 u211 u212 u213 u214 u215 u216 u217 u218 u219 u220 u221 u222 u223 : Value, Q .ret ⟨#[c0, c1, c2, .int .i64 tlo, .int .i64 thi, .pointer (some ⟨c.bm, 0, none⟩), c6, c7, c8, c9, .int .i64 ((L : Int) + 1), .int .i64 (m.n1 : Int), .slice (some ⟨c.db, 0, none⟩) m.n1 m.n1, c13, c14, c15, c16, c17, .int .i64 (L : Int), u19, .int .i64 (x : Int), u21, u22, u23, u24, u25, u26, u27, u28, c29, c30, c31, c32, c33, c34, c35, c36, c37, c38, c39, c40, c41, c42, c43, c44, c45, c46, c47, c48, c49, c50, c51, c52, c53, c54, c55, c56, c57, c58, c59, c60, c61, c62, c63, c64, c65, c66, c67, c68, c69, c70, c71, c72, c73, c74, c75, c76, c77, c78, c79, c80, c81, c82, c83, c84, c85, c86, c87, c88, c89, c90, c91, u92, u93, u94, u95, u96, u97, u98, u99, u100, u101, u102, u103, u104, u105, u106, u107, u108, u109, u110, u111, u112, u113, u114, u115, u116, u117, u118, u119, u120, u121, u122, u123, u124, u125, u126, u127, u128, u129, u130, u131, u132, u133, u134, u135, u136, u137, u138, u139, u140, u141, u142, u143, u144, u145, u146, u147, u148, u149, u150, u151, u152, u153, u154, u155, u156, u157, u158, u159, u160, u161, u162, u163, u164, u165, u166, u167, u168, u169, u170, u171, u172, u173, u174, u175, u176, u177, u178, u179, u180, u181, u182, u183, u184, u185, u186, u187, u188, u189, u190, u191, u192, u193, u194, u195, u196, u197, u198, u199, u200, u201, u202, u203, u204, u205, u206, u207, u208, u209, u210, u211, u212, u213, u214, u215, u216, u217, u218, u219, u220, u221, u222, u223, c224, c225], []⟩ w') :
    Code.wp Try.prog (unloop ((Try.f36.body.bind (findBody 8)).getD .skip)) Q ⟨#[c0, c1, c2, .int .i64 tlo, .int .i64 thi, .pointer (some ⟨c.bm, 0, none⟩), c6, c7, c8, c9, c10, .int .i64 (m.n1 : Int), .slice (some ⟨c.db, 0, none⟩) m.n1 m.n1, c13, c14, c15, c16, c17, .int .i64 (L : Int), .bool sn, .int .i64 (x : Int), c21, c22, c23, c24, c25, c26, c27, c28, c29, c30, c31, c32, c33, c34, c35, c36, c37, c38, c39, c40, c41, c42, c43, c44, c45, c46, c47, c48, c49, c50, c51, c52, c53, c54, c55, c56, c57, c58, c59, c60, c61, c62, c63, c64, c65, c66, c67, c68, c69, c70, c71, c72, c73, c74, c75, c76, c77, c78, c79, c80, c81, c82, c83, c84, c85, c86, c87, c88, c89, c90, c91, c92, c93, c94, c95, c96, c97, c98, c99, c100, c101, c102, c103, c104, c105, c106, c107, c108, c109, c110, c111, c112, c113, c114, c115, c116, c117, c118, c119, c120, c121, c122, c123, c124, c125, c126, c127, c128, c129, c130, c131, c132, c133, c134, c135, c136, c137, c138, c139, c140, c141, c142, c143, c144, c145, c146, c147, c148, c149, c150, c151, c152, c153, c154, c155, c156, c157, c158, c159, c160, c161, c162, c163, c164, c165, c166, c167, c168, c169, c170, c171, c172, c173, c174, c175, c176, c177, c178, c179, c180, c181, c182, c183, c184, c185, c186, c187, c188, c189, c190, c191, c192, c193, c194, c195, c196, c197, c198, c199, c200, c201, c202, c203, c204, c205, c206, c207, c208, c209, c210, c211, c212, c213, c214, c215, c216, c217, c218, c219, c220, c221, c222, c223, c224, c225], []⟩ w := by
  have hn1 := hS.s1
  have hn4 := hS.s4
  have e5 := hW.e5
  have huh := hW.uh x hx
  have hLr : Laid w c.B0 m := hL.keep D.2.2.1
  have y5 : w.cell? ⟨c.bm, 5, none⟩ = some (.slice m.a5 m.n5 m.c5) := D.1.cell (i := 5) (by omega)
  obtain ⟨o, ho⟩ : ∃ o : Nat, m.f5 x = (o : Int) := ⟨(m.f5 x).toNat, by omega⟩
  obtain ⟨z, hz⟩ : ∃ z : Nat, m.f5 (x + 1) = (z : Int) := ⟨(m.f5 (x + 1)).toNat, by omega⟩
  obtain ⟨len, hlen⟩ : ∃ len : Nat, z = o + len := ⟨z - o, by omega⟩
  have hz4 : z ≤ m.n4 := by omega
  have hle : (m.f5 (x + 1)).toNat - (m.f5 x).toNat = len := by omega
  have hot : (m.f5 x).toNat = o := by omega
  obtain ⟨b5, o5, e5a, _, k5⟩ := hLr.h5 (by omega)
  have ix5 := run_atN (P := Try.prog) 34 21 m.a5 m.n5 m.c5 b5 o5 .i64 x Try.underlying34 Try.size21 e5a (by omega)
  have d5 := k5 x (by omega)
  rw [ho] at d5
  have ix5' := run_atN (P := Try.prog) 34 21 m.a5 m.n5 m.c5 b5 o5 .i64 (x + 1) Try.underlying34 Try.size21 e5a (by omega)
  rw [show ((x + 1 : Nat) : Int) = (x : Int) + 1 by omega] at ix5'
  have H5 : Hid (∀ w', Below c.B0 c.w0 w' → w'.cell? ⟨b5, o5 + (x + 1), none⟩ = some (.int .i32 (z : Int))) := fun w' hb => by
    obtain ⟨b5', o5', e5b, _, k5'⟩ := (hL.keep hb).h5 (by omega)
    rw [e5a] at e5b
    cases e5b
    rw [k5' (x + 1) (by omega), hz]
  have zx : w.cell? ⟨c.db, x, none⟩ = some (.int .i64 (d x)) := D.2.1.cell hx
  have hxi : (x : Int) < (m.n1 : Int) := by omega
  have HL : Hid (Laid c.w0 c.B0 m) := hL
  have HWF : Hid (WF m) := hW
  have HSm : Hid (Small m) := hS
  have HON : Hid _ := hon
  have HHIT : Hid _ := hhit
  have HLE : Hid ((m.f5 (x + 1)).toNat - (m.f5 x).toNat = len) := hle
  have HOT : Hid ((m.f5 x).toNat = o) := hot
  have HZ : Hid (m.f5 (x + 1) = (z : Int)) := hz
  have HZL : Hid (z = o + len) := hlen
  have hzb : z ≤ 262144 := by omega
  have hob : o + len ≤ 262144 := by omega
  have HD : Hid (DS m c d w) := D
  clear hL hW hS hon hhit e5a k5 huh hle hot hz hlen ho D hLr e5
  conv => arg 2; whnf
  by_cases hdx : d x = (L : Int)
  · have e1 : Hid (stepX m tlo thi L x d sn = match partsD m tlo thi L x d len with
      | none => none
      | some d'' => some (d'', true)) := by
      have h : stepX m tlo thi L x d sn = match partsD m tlo thi L x d len with
        | none => none
        | some d'' => some (d'', true) := by simp only [stepX, hdx, if_true, HLE.out]
      exact h
    rw [hdx] at zx
    clear hdx
    go_wp2
    go_loopw [21] (fun t wr => ∃ (j : Nat) (d' : Nat → Int), j ≤ len ∧ t = .int .i64 ((o + j : Nat) : Int) ∧ Hid (partsD m tlo thi L x d j = some d') ∧ DS m c d' wr) (fun t _ => o + len - (intOf t).toNat)
    case atStart => exact ⟨0, d, by omega, rfl, rfl, HD.out⟩
    case round =>
      clear ix5 d5 zx y5
      obtain ⟨j, d', hj, rfl, ej, Dj⟩ := hrel
      by_cases hjl : j < len
      · have hzl := HZL.out
        have hpr := HWF.out.ho (o + j) (by omega)
        obtain ⟨p, hpE⟩ : ∃ p : Nat, m.f4 (o + j) = (p : Int) := ⟨(m.f4 (o + j)).toNat, by omega⟩
        have hnext : Hid (partsD m tlo thi L x d (j + 1) = partD m tlo thi L x p d') := by
          have h : partsD m tlo thi L x d (j + 1) = partD m tlo thi L x p d' := by
            simp only [partsD, ej.out, HOT.out, hpE, Int.toNat_natCast]
          exact h
        refine partP m c ok HL.out HWF.out HSm.out tlo thi d' L x (o + j) p _ wr Dj hLv hx (by omega) hpE (by omega) (by rw [HZ.out]; omega) _ _ _ _ _ _ _ _ _ _ _ _ _ _ _ _ _ _ _ _ _ _ _ _ _ _ _ _ _ _ _ _ _ _ _ _ _ _ _ _ _ _ _ _ _ _ _ _ _ _ _ _ _ _ _ _ _ _ _ _ _ _ _ _ _ _ _ _ _ _ _ _ _ _ _ _ _ _ _ _ _ _ _ _ _ _ _ _ _ _ _ _ _ _ _ _ _ _ _ _ _ _ _ _ _ _ _ _ _ _ _ _ _ _ _ _ _ _ _ _ _ _ _ _ _ _ _ _ _ _ _ _ _ _ _ _ _ _ _ _ _ _ _ _ _ _ _ _ _ _ _ _ _ _ _ _ _ _ _ _ _ _ _ _ _ _ _ _ _ _ _ _ _ _ _ _ _ _ _ _ _ _ _ _ _ _ _ _ _ _ _ _ _ _ _ _ _ _ _ _ _ _ _ _ _ _ _ _ _ _ _ _ _ _ _ _ _ _ _ ?_ ?_
        · intro d'' w' h1 D'
          intros
          have HN : Hid (partsD m tlo thi L x d (j + 1) = some d'') := hnext.out.trans h1
          clear hnext h1 Dj
          (try simp only [Exit.then])
          go_roundw
          case rel => (first | exact ⟨j + 1, d'', by omega, congrArg (Value.int .i64) (by omega), HN, D'⟩ | ((repeat apply Exists.intro); exact ⟨⟨j + 1, d'', by omega, congrArg (Value.int .i64) (by omega), HN, D'⟩, rfl⟩))
          case measure => simp only [intOf]; omega
        · intro d'' w' h1 D'
          intros
          have HN : stepX m tlo thi L x d sn = none := by rw [e1.out, partsD_hit (hnext.out.trans h1) len (by omega)]
          clear hnext h1 Dj
          (try simp only [Exit.inBlock, Exit.then])
          have h := HHIT.out _ _ HN D'
          apply h
      · obtain rfl : j = len := by omega
        have d5' := H5.out wr Dj.2.2.1
        rw [HZL.out] at d5'
        have y5 : wr.cell? ⟨c.bm, 5, none⟩ = some (.slice m.a5 m.n5 m.c5) := Dj.1.cell (i := 5) (by omega)
        have HN : Hid (stepX m tlo thi L x d sn = some (d', true)) := by
          have h : stepX m tlo thi L x d sn = some (d', true) := by rw [e1.out, ej.out]
          exact h
        go_wp2
        have h := HON.out d' true _ HN.out Dj
        apply h
  · have e1 : Hid (stepX m tlo thi L x d sn = some (d, sn)) := by
      have h : stepX m tlo thi L x d sn = some (d, sn) := by simp only [stepX, if_neg hdx]
      exact h
    have hdb : (d x != (L : Int)) = true := by simpa using hdx
    go_wp2
    have h := HON.out d sn _ e1.out HD.out
    apply h
end Go.Proofs.Qxb6602564a
