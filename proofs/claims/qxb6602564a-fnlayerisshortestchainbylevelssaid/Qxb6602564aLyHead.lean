/-
  layer: one unit of the queue.
-/
import Derived.Test.Qxb6602564aLyPart
namespace Go.Proofs.Qxb6602564a
open Go.RowKit Go.Sort
set_option linter.unusedVariables false
set_option maxRecDepth 1000000 in
set_option maxHeartbeats 8000000 in
theorem head5 (m : M) (cx : Cx) (ok : cx.ok) (hL : Laid cx.w0 cx.B0 m) (hW : WF m) (hS : Small m) (hcap4 : m.n4 ≤ m.c4) (hcap : m.n6 ≤ m.c6) (s : Stt) (h x : Nat) (Q : Exit → Act → World → Prop) (w : World)
    (L : LS m cx s w) (hh : h < s.q.length) (hxq : s.q[h] = x)
    (c1 c2 c3 c4 c6 c7 c8 c9 c10 c13 c14 c15 c16 c17 c18 c19 c20 c21 c22 c23 c24 c25 c26 c27 c28 c29 c30 c31 c32 c33 c34 c35 c36 c37 c38 c39 c40 c41 c42 c43 c44 c45 c46 c47 c48 c49 c50 c51 c52 c53 c54 c55 c56 c57 c58 c59 c60 c61 c62 c63 c64 c65 c66 c67 c68 c69 c70 c71 c72 c73 c74 c75 c76 c77 c78 c79 c80 c81 c82 c83 c84 c85 c86 c87 c88 c89 c90 c91 c92 c93 c94 c95 c96 c97 c98 c99 c100 c101 c102 c103 c104 c105 c106 c107 c108 c109 c110 c111 c112 c113 c114 c115 c116 c117 c118 c119 c120 c121 c122 c123 c124 c125 c126 c127 c128 c129 c130 c131 c132 c133 c134 c135 c136 c137 c138 c139 c140 c141 c142 c143 c144 c145 c146 c147 c148 c149 c150 c151 c152 c153 c154 c155 c156 c157 c158 c159 c160 c161 c162 c163 c164 c165 c166 c167 c168 c169 c170 c171 c172 c173 c174 c175 c176 c177 c178 c179 c180 c181 c182 c183 c184 c185 c186 c187 c188 c189 c190 c191 c192 c193 c194 c195 c196 c197 c198 c199 c200 c201 c202 c203 c204 c205 c206 c207 c208 c209 c210 c211 c212 c213 c214 c215 c216 c217 c218 c219 c220 c221 c222 c223 c224 c225 c226 c227 c228 c229 c230 c231 c232 c233 c234 c235 c236 c237 c238 c239 c240 c241 c242 c243 c244 c245 c246 c247 c248 c249 c250 c251 c252 c253 c254 c255 c256 c257 c258 c259 c260 c261 c262 c263 c264 c265 c266 c267 c268 c269 : Value)
    (hon : ∀ t w', partsS m cx.tlo cx.thi x s ((m.f5 (x + 1)).toNat - (m.f5 x).toNat) = .inl t → LS m cx t w' → ∀ u6 u13 u14 u16 u18 u19 u20 u21 u22 u24 u25 u87 u88 u89 u90 u91 u92 u93 u94 u95 u96 u97 u98 u99 u100 u101 u102 u103 u104 u105 u106 u107 u108 u109 u110 u111 u112 u113 u114 u115 u116 u117 u118 u119 u120 u121 u122 u123 u124 u125 u126 u127 u128 u129 u130 u131 u132 u133 u134 u135 u136 u137 u138 u139 u140 u141 u142 u143 u144 u145 u146 u147 u148 u149 u150 u151 u152 u153 u154 u155 u156 u157 u158 u159 u160 u161 u162 u163 u164 u165 u166 u167 u168 u169 u170 u171 u172 u173 u174 u175 u176 u177 u178 u179 u180 u181 u182 u183 u184 u185 u186 u187 u188 u189 u190 u191 u192 u193 u194 u195 u196 u197 u198 u199 u200 u201 u202 u203 u204 u205 u206 u207 u208 u209 u210 u211 u212 u213 u214 u215 u216 u217 u218 u219 u220 u221 u222 u223 u224 u225 u226 u227 u228 u229 u230 u231 u232 u233 u234 u235 u236 u237 u238 u239 u240 u241 u242 u243 u244 u245 u246 u247 u248 u249 u250 u251 u252 u253 u254 u255 u256 u257 u258 u259 u260 u261 u262 u263 u264 u265 u266 u267 u268 u269 : Value, Q .normal ⟨#[.pointer (some ⟨cx.mb, 0, none⟩), c1, c2, c3, c4, .pointer (some ⟨cx.bt, 0, none⟩), u6, c7, c8, c9, c10, .pointer (some ⟨cx.sb, 0, none⟩), .int .i64 ((h : Int) + 1), u13, u14, c15, u16, c17, u18, u19, u20, u21, u22, c23, u24, u25, c26, c27, c28, c29, c30, c31, c32, c33, c34, c35, c36, c37, c38, c39, c40, c41, c42, c43, c44, c45, c46, c47, c48, c49, c50, c51, c52, c53, c54, c55, c56, c57, c58, c59, c60, c61, c62, c63, c64, c65, c66, c67, c68, c69, c70, c71, c72, c73, c74, c75, c76, c77, c78, c79, c80, c81, c82, c83, c84, c85, c86, u87, u88, u89, u90, u91, u92, u93, u94, u95, u96, u97, u98, u99, u100, u101, u102, u103, u104, u105, u106, u107, u108, u109, u110, u111, u112, u113, u114, u115, u116, u117, u118, u119, u120, u121, u122, u123, u124, u125, u126, u127, u128, u129, u130, u131, u132, u133, u134, u135, u136, u137, u138, u139, u140, u141, u142, u143, u144, u145, u146, u147, u148, u149, u150, u151, u152, u153, u154, u155, u156, u157, u158, u159, u160, u161, u162, u163, u164, u165, u166, u167, u168, u169, u170, u171, u172, u173, u174, u175, u176, u177, u178, u179, u180, u181, u182, u183, u184, u185, u186, u187, u188, u189, u190, u191, u192, u193, u194, u195, u196, u197, u198, u199, u200, u201, u202, u203, u204, u205, u206, u207, u208, u209, u210, u211, u212, u213, u214, u215, u216, u217, u218, u219, u220, u221, u222, u223, u224, u225, u226, u227, u228, u229, u230, u231, u232, u233, u234, u235, u236, u237, u238, u239, u240, u241, u242, u243, u244, u245, u246, u247, u248, u249, u250, u251, u252, u253, u254, u255, u256, u257, u258, u259, u260, u261, u262, u263, u264, u265, u266, u267, u268, u269], []⟩ w')
    (hhit : ∀ t w', partsS m cx.tlo cx.thi x s ((m.f5 (x + 1)).toNat - (m.f5 x).toNat) = .inr (s.dep x + 1) → LS m cx t w' → ∀ u13 u14 u16 u18 u19 u20 u21 u22 u24 u25 u87 u88 u89 u90 u91 u92 u93 u94 u95 u96 u97 u98 u99 u100 u101 u102 u103 u104 u105 u106 u107 u108 u109 u110 u111 u112 u113 u114 u115 u116 u117 u118 u119 u120 u121 u122 u123 u124 u125 u126 u127 u128 u129 u130 u131 u132 u133 u134 u135 u136 u137 u138 u139 u140 u141 u142 u143 u144 u145 u146 u147 u148 u149 u150 u151 u152 u153 u154 u155 u156 u157 u158 u159 u160 u161 u162 u163 u164 u165 u166 u167 u168 u169 u170 u171 u172 u173 u174 u175 u176 u177 u178 u179 u180 u181 u182 u183 u184 u185 u186 u187 u188 u189 u190 u191 u192 u193 u194 u195 u196 u197 u198 u199 u200 u201 u202 u203 u204 u205 u206 u207 u208 u209 u210 u211 u212 u213 u214 u215 u216 u217 u218 u219 u220 u221 u222 u223 u224 u225 u226 u227 u228 u229 u230 u231 u232 u233 u234 u235 u236 u237 u238 u239 u240 u241 u242 u243 u244 u245 u246 u247 u248 u249 u250 u251 u252 u253 u254 u255 u256 u257 u258 u259 u260 u261 u262 u263 u264 u265 u266 u267 u268 u269 : Value, Q .ret ⟨#[.pointer (some ⟨cx.mb, 0, none⟩), c1, c2, c3, c4, .pointer (some ⟨cx.bt, 0, none⟩), .int .i64 (s.dep x + 1), c7, c8, c9, c10, .pointer (some ⟨cx.sb, 0, none⟩), .int .i64 (h : Int), u13, u14, c15, u16, c17, u18, u19, u20, u21, u22, c23, u24, u25, c26, c27, c28, c29, c30, c31, c32, c33, c34, c35, c36, c37, c38, c39, c40, c41, c42, c43, c44, c45, c46, c47, c48, c49, c50, c51, c52, c53, c54, c55, c56, c57, c58, c59, c60, c61, c62, c63, c64, c65, c66, c67, c68, c69, c70, c71, c72, c73, c74, c75, c76, c77, c78, c79, c80, c81, c82, c83, c84, c85, c86, u87, u88, u89, u90, u91, u92, u93, u94, u95, u96, u97, u98, u99, u100, u101, u102, u103, u104, u105, u106, u107, u108, u109, u110, u111, u112, u113, u114, u115, u116, u117, u118, u119, u120, u121, u122, u123, u124, u125, u126, u127, u128, u129, u130, u131, u132, u133, u134, u135, u136, u137, u138, u139, u140, u141, u142, u143, u144, u145, u146, u147, u148, u149, u150, u151, u152, u153, u154, u155, u156, u157, u158, u159, u160, u161, u162, u163, u164, u165, u166, u167, u168, u169, u170, u171, u172, u173, u174, u175, u176, u177, u178, u179, u180, u181, u182, u183, u184, u185, u186, u187, u188, u189, u190, u191, u192, u193, u194, u195, u196, u197, u198, u199, u200, u201, u202, u203, u204, u205, u206, u207, u208, u209, u210, u211, u212, u213, u214, u215, u216, u217, u218, u219, u220, u221, u222, u223, u224, u225, u226, u227, u228, u229, u230, u231, u232, u233, u234, u235, u236, u237, u238, u239, u240, u241, u242, u243, u244, u245, u246, u247, u248, u249, u250, u251, u252, u253, u254, u255, u256, u257, u258, u259, u260, u261, u262, u263, u264, u265, u266, u267, u268, u269], []⟩ w') :
    Code.wp Try.prog (unloop ((Try.f52.body.bind (findBody 4)).getD .skip)) Q ⟨#[.pointer (some ⟨cx.mb, 0, none⟩), c1, c2, c3, c4, .pointer (some ⟨cx.bt, 0, none⟩), c6, c7, c8, c9, c10, .pointer (some ⟨cx.sb, 0, none⟩), .int .i64 (h : Int), c13, c14, c15, c16, c17, c18, c19, c20, c21, c22, c23, c24, c25, c26, c27, c28, c29, c30, c31, c32, c33, c34, c35, c36, c37, c38, c39, c40, c41, c42, c43, c44, c45, c46, c47, c48, c49, c50, c51, c52, c53, c54, c55, c56, c57, c58, c59, c60, c61, c62, c63, c64, c65, c66, c67, c68, c69, c70, c71, c72, c73, c74, c75, c76, c77, c78, c79, c80, c81, c82, c83, c84, c85, c86, c87, c88, c89, c90, c91, c92, c93, c94, c95, c96, c97, c98, c99, c100, c101, c102, c103, c104, c105, c106, c107, c108, c109, c110, c111, c112, c113, c114, c115, c116, c117, c118, c119, c120, c121, c122, c123, c124, c125, c126, c127, c128, c129, c130, c131, c132, c133, c134, c135, c136, c137, c138, c139, c140, c141, c142, c143, c144, c145, c146, c147, c148, c149, c150, c151, c152, c153, c154, c155, c156, c157, c158, c159, c160, c161, c162, c163, c164, c165, c166, c167, c168, c169, c170, c171, c172, c173, c174, c175, c176, c177, c178, c179, c180, c181, c182, c183, c184, c185, c186, c187, c188, c189, c190, c191, c192, c193, c194, c195, c196, c197, c198, c199, c200, c201, c202, c203, c204, c205, c206, c207, c208, c209, c210, c211, c212, c213, c214, c215, c216, c217, c218, c219, c220, c221, c222, c223, c224, c225, c226, c227, c228, c229, c230, c231, c232, c233, c234, c235, c236, c237, c238, c239, c240, c241, c242, c243, c244, c245, c246, c247, c248, c249, c250, c251, c252, c253, c254, c255, c256, c257, c258, c259, c260, c261, c262, c263, c264, c265, c266, c267, c268, c269], []⟩ w := by
  have hn1 := hS.s1
  have hn4 := hS.s4
  have hn5 := hS.s5
  have e5 := hW.e5
  obtain ⟨qa, qc, db, hxr, hx, hdb, hlen, y0, yq, y3, yd, y5, y6⟩ : ∃ (qa qc : Nat) (dd : Unit), s.rc x = true ∧ x < m.n1 ∧ (0 ≤ s.dep x ∧ s.dep x ≤ 1000000) ∧ s.q.length ≤ 1000000 ∧ w.cell? ⟨cx.sb, 0, none⟩ = some (.slice (some ⟨qa, 0, none⟩) s.q.length qc) ∧ w.cell? ⟨qa, h, none⟩ = some (.int .i64 (x : Int)) ∧ w.cell? ⟨cx.sb, 3, none⟩ = some (.slice (some ⟨cx.db, 0, none⟩) m.n1 m.n1) ∧ w.cell? ⟨cx.db, x, none⟩ = some (.int .i64 (s.dep x)) ∧ w.cell? ⟨cx.mb, 5, none⟩ = some (.slice m.a4 m.n4 m.c4) ∧ w.cell? ⟨cx.mb, 6, none⟩ = some (.slice m.a5 m.n5 m.c5) := by
    obtain ⟨q, d, i, o, S, hq, R, F, hg, hap, hb, hB, hs⟩ := L
    obtain ⟨qa, qc, rfl, hqc⟩ := ownsRow_slice hq
    obtain ⟨g, rfl, _, hcell⟩ := hqc (by omega)
    have hin := F.inq x (by rw [← hxq]; exact List.getElem_mem hh)
    have hdp := F.dep x hin.1
    have hfl := F.length
    have hsu := hS.su
    rw [hW.e8] at hsu
    refine ⟨g, qc, (), hin.1, hin.2, by omega, by omega, S.rs.cell (i := 0) (by omega), hcell h _ (by simp [qv, hh, hxq]), S.rs.cell (i := 3) (by omega), ?_, S.rm.cell (i := 5) (by omega), S.rm.cell (i := 6) (by omega)⟩
    rw [S.rd.cell hin.2]
    simp only [nums]
    rw [R.dp x hin.2 hin.1]
  obtain ⟨hdx1, hdx2⟩ := hdb
  have huh := hW.uh x hx
  obtain ⟨b5, o5, e5a, d5, d5'⟩ : ∃ b5 o5, m.a5 = some ⟨b5, o5, none⟩ ∧ w.cell? ⟨b5, o5 + x, none⟩ = some (.int .i32 (m.f5 x)) ∧ w.cell? ⟨b5, o5 + (x + 1), none⟩ = some (.int .i32 (m.f5 (x + 1))) := by
    obtain ⟨q, d, i, o, S, hq, R, F, hg, hap, hb, hB, hs⟩ := L
    obtain ⟨b5, o5, e5a, _, k5⟩ := (hL.keep hB).h5 (by omega)
    exact ⟨b5, o5, e5a, k5 x (by omega), k5 (x + 1) (by omega)⟩
  have ix5 := run_atN (P := Try.prog) 34 21 m.a5 m.n5 m.c5 b5 o5 .i64 x Try.underlying34 Try.size21 e5a (by omega)
  have ix5' := run_atN (P := Try.prog) 34 21 m.a5 m.n5 m.c5 b5 o5 .i64 (x + 1) Try.underlying34 Try.size21 e5a (by omega)
  rw [show ((x + 1 : Nat) : Int) = (x : Int) + 1 by omega] at ix5'
  obtain ⟨ah, ch, hcut, hHas⟩ := cut_has (P := Try.prog) 34 21 hL.h4 hcap4 Try.underlying34 Try.size21 (m.f5 x) (m.f5 (x + 1)) huh.1 huh.2.1 huh.2.2
  obtain ⟨len, hlenE⟩ : ∃ len, len = (m.f5 (x + 1)).toNat - (m.f5 x).toNat := ⟨_, rfl⟩
  rw [← hlenE] at hcut hHas hon hhit
  have hlen4 : len ≤ 262144 := by omega
  have hpr : ∀ i, i < len → 0 ≤ m.f4 ((m.f5 x).toNat + i) ∧ m.f4 ((m.f5 x).toNat + i) < m.n0 := fun i hi => hW.ho _ (by omega)
  have hhi : (h : Int) < (s.q.length : Int) := by omega
  have hxi : (x : Int) < (m.n1 : Int) := by omega
  have HL : Hid (Laid cx.w0 cx.B0 m) := hL
  have HWF : Hid (WF m) := hW
  have HSm : Hid (Small m) := hS
  have HON : Hid _ := hon
  have HHIT : Hid _ := hhit
  have HLE : Hid (len = _) := hlenE
  have HPR : Hid _ := hpr
  have HE5 : Hid (m.n5 = m.n1 + 1) := e5
  clear hL hW hS hon hhit huh e5a hlenE hpr e5
  conv => arg 2; whnf
  go_upto_region 20 with fail
  go_quiet (fail)
  have L1 := L.only ok (Only.drewN [] w nq)
  generalize w.drewN nq = wy at *
  clear y0 yq y3 yd y5 y6 d5 d5' ix5 ix5' hcut L
  go_wp2
  go_loopw [132] (fun c wr => ∃ (j : Nat) (t : Stt), j ≤ len ∧ c = .int .i64 j ∧ Hid (partsS m cx.tlo cx.thi x s j = .inl t) ∧ LS m cx t wr) (fun c _ => len - (intOf c).toNat)
  case atStart => exact ⟨0, s, by omega, rfl, rfl, L1⟩
  case round =>
    clear L1
    obtain ⟨j, t, hj, rfl, ej, Lj⟩ := hrel
    have hkp : Keeps x s t := Keeps.parts hxr j t ej.out
    by_cases hjl : j < len
    · obtain ⟨p, hpE⟩ : ∃ p : Nat, m.f4 ((m.f5 x).toNat + j) = (p : Int) := ⟨(m.f4 ((m.f5 x).toNat + j)).toNat, by have := HPR.out j hjl; omega⟩
      have hp : p < m.n0 := by have := HPR.out j hjl; omega
      obtain ⟨bv, ov, ev, dv⟩ : ∃ bv ov, ah = some ⟨bv, ov, none⟩ ∧ wr.cell? ⟨bv, ov + j, none⟩ = some (.int .i32 (p : Int)) := by
        obtain ⟨q, d, i, o, S, hq, R, F, hg, hap, hb, hB, hs⟩ := Lj
        obtain ⟨bv, ov, ev, _, kv⟩ := hHas.keep hB (by omega)
        exact ⟨bv, ov, ev, by rw [kv j hjl]; simp only [hpE]⟩
      have hnext : Hid (partsS m cx.tlo cx.thi x s (j + 1) = partS m cx.tlo cx.thi x p t) := by
        have h : partsS m cx.tlo cx.thi x s (j + 1) = partS m cx.tlo cx.thi x p t := by
          simp only [partsS, partS, ej.out, hpE, Int.toNat_natCast]
        exact h
      have hji : (j : Int) < (len : Int) := by omega
      clear hpE
      refine part7 m cx ok HL.out HWF.out HSm.out hcap t x j len ch p (s.dep x) ah bv ov _ wr Lj hx hkp.1 hkp.2 hp hjl hlen4 ev dv _ _ _ _ _ _ _ _ _ _ _ _ _ _ _ _ _ _ _ _ _ _ _ _ _ _ _ _ _ _ _ _ _ _ _ _ _ _ _ _ _ _ _ _ _ _ _ _ _ _ _ _ _ _ _ _ _ _ _ _ _ _ _ _ _ _ _ _ _ _ _ _ _ _ _ _ _ _ _ _ _ _ _ _ _ _ _ _ _ _ _ _ _ _ _ _ _ _ _ _ _ _ _ _ _ _ _ _ _ _ _ _ _ _ _ _ _ _ _ _ _ _ _ _ _ _ _ _ _ _ _ _ _ _ _ _ _ _ _ _ _ _ _ _ _ _ _ _ _ _ _ _ _ _ _ _ _ _ _ _ _ _ _ _ _ _ _ _ _ _ _ _ _ _ _ _ _ _ _ _ _ _ _ _ _ _ _ _ _ _ _ _ _ _ _ _ _ _ _ _ _ _ _ _ _ _ _ _ _ _ _ _ _ _ _ _ _ _ _ _ _ _ _ _ _ _ _ _ _ _ _ _ _ _ _ _ _ _ _ _ _ _ _ _ _ _ _ _ _ _ _ _ _ _ _ _ _ _ _ _ _ _ ?_ ?_
      · intro t' w' h1 L'
        intros
        have HN : Hid (partsS m cx.tlo cx.thi x s (j + 1) = .inl t') := hnext.out.trans h1
        clear hnext h1 Lj dv
        (try simp only [Exit.then])
        go_roundw
        case rel => (first | exact ⟨j + 1, t', by omega, by go_num, HN, L'⟩ | ((repeat apply Exists.intro); exact ⟨⟨j + 1, t', by omega, by go_num, HN, L'⟩, rfl⟩))
        case measure => simp [intOf]; omega
      · intro t' w' h1 L'
        intros
        have HN : partsS m cx.tlo cx.thi x s len = .inr (s.dep x + 1) := parts_hit (hnext.out.trans h1) len (by omega)
        clear hnext h1 Lj dv
        (try simp only [Exit.inBlock, Exit.then])
        have h := HHIT.out _ _ HN L'
        apply h
    · obtain rfl : j = len := by omega
      go_wp2
      have h := HON.out t _ ej.out Lj
      apply h
end Go.Proofs.Qxb6602564a
