/-
  layer: one partition that x holds.
-/
import Derived.Test.Qxb6602564aLyRepl
namespace Go.Proofs.Qxb6602564a
open Go.RowKit Go.Sort
set_option linter.unusedVariables false
/-- What the search does with partition p that x holds. -/
def partS (m : M) (lo hi : Int) (x p : Nat) (s : Stt) : Go' := if m.f0 p = (x : Int) then replsS m lo hi x p s m.k.toNat else .inl s
set_option maxRecDepth 1000000 in
set_option maxHeartbeats 8000000 in
theorem part7 (m : M) (cx : Cx) (ok : cx.ok) (hL : Laid cx.w0 cx.B0 m) (hW : WF m) (hS : Small m) (hcap : m.n6 ≤ m.c6) (s : Stt) (x i Kh ch p : Nat) (dx : Int) (ah : Option Addr) (b off : Nat) (Q : Exit → Act → World → Prop) (w : World)
    (L : LS m cx s w) (hx : x < m.n1) (hxr : s.rc x = true) (hdx : s.dep x = dx) (hp : p < m.n0) (hi : i < Kh) (hKh : Kh ≤ 262144) (hah : ah = some ⟨b, off, none⟩) (hcell : w.cell? ⟨b, off + i, none⟩ = some (.int .i32 (p : Int)))
    (c1 c2 c3 c4 c6 c7 c8 c9 c10 c12 c15 c16 c17 c18 c19 c20 c21 c22 c23 c24 c25 c26 c27 c28 c29 c30 c31 c32 c33 c34 c35 c36 c37 c38 c39 c40 c41 c42 c43 c44 c45 c46 c47 c48 c49 c50 c51 c52 c53 c54 c55 c56 c57 c58 c59 c60 c61 c62 c63 c64 c65 c66 c67 c68 c69 c70 c71 c72 c73 c74 c75 c76 c77 c78 c79 c80 c81 c82 c83 c84 c85 c86 c87 c88 c89 c90 c91 c92 c93 c94 c95 c96 c97 c98 c99 c100 c101 c102 c103 c104 c105 c106 c107 c108 c109 c110 c111 c112 c113 c114 c115 c116 c117 c118 c119 c120 c121 c122 c123 c124 c125 c126 c127 c128 c129 c133 c134 c135 c136 c137 c138 c139 c140 c141 c142 c143 c144 c145 c146 c147 c148 c149 c150 c151 c152 c153 c154 c155 c156 c157 c158 c159 c160 c161 c162 c163 c164 c165 c166 c167 c168 c169 c170 c171 c172 c173 c174 c175 c176 c177 c178 c179 c180 c181 c182 c183 c184 c185 c186 c187 c188 c189 c190 c191 c192 c193 c194 c195 c196 c197 c198 c199 c200 c201 c202 c203 c204 c205 c206 c207 c208 c209 c210 c211 c212 c213 c214 c215 c216 c217 c218 c219 c220 c221 c222 c223 c224 c225 c226 c227 c228 c229 c230 c231 c232 c233 c234 c235 c236 c237 c238 c239 c240 c241 c242 c243 c244 c245 c246 c247 c248 c249 c250 c251 c252 c253 c254 c255 c256 c257 c258 c259 c260 c261 c262 c263 c264 c265 c266 c267 c268 c269 : Value)
    (hon : ∀ t w', partS m cx.tlo cx.thi x p s = .inl t → LS m cx t w' → ∀ u6 u16 u18 u19 u20 u21 u22 u24 u25 u133 u134 u135 u136 u137 u138 u139 u140 u141 u142 u143 u144 u145 u146 u147 u148 u149 u150 u151 u152 u153 u154 u155 u156 u157 u158 u159 u160 u161 u162 u163 u164 u165 u166 u167 u168 u169 u170 u171 u172 u173 u174 u175 u176 u177 u178 u179 u180 u181 u182 u183 u184 u185 u186 u187 u188 u189 u190 u191 u192 u193 u194 u195 u196 u197 u198 u199 u200 u201 u202 u203 u204 u205 u206 u207 u208 u209 u210 u211 u212 u213 u214 u215 u216 u217 u218 u219 u220 u221 u222 u223 u224 u225 u226 u227 u228 u229 u230 u231 u232 u233 u234 u235 u236 u237 u238 u239 u240 u241 u242 u243 u244 u245 u246 u247 u248 u249 u250 u251 u252 u253 u254 u255 u256 u257 u258 u259 u260 u261 u262 u263 u264 u265 u266 u267 u268 u269 : Value, Q .normal ⟨#[.pointer (some ⟨cx.mb, 0, none⟩), c1, c2, c3, c4, .pointer (some ⟨cx.bt, 0, none⟩), u6, c7, c8, c9, c10, .pointer (some ⟨cx.sb, 0, none⟩), c12, .int .i64 (x : Int), .int .i64 (dx + 1), c15, u16, c17, u18, u19, u20, u21, u22, c23, u24, u25, c26, c27, c28, c29, c30, c31, c32, c33, c34, c35, c36, c37, c38, c39, c40, c41, c42, c43, c44, c45, c46, c47, c48, c49, c50, c51, c52, c53, c54, c55, c56, c57, c58, c59, c60, c61, c62, c63, c64, c65, c66, c67, c68, c69, c70, c71, c72, c73, c74, c75, c76, c77, c78, c79, c80, c81, c82, c83, c84, c85, c86, c87, c88, c89, c90, c91, c92, c93, c94, c95, c96, c97, c98, c99, c100, c101, c102, c103, c104, c105, c106, c107, c108, c109, c110, c111, c112, c113, c114, c115, c116, c117, c118, c119, c120, c121, c122, c123, c124, c125, c126, c127, c128, c129, .slice ah Kh ch, .int .i64 (Kh : Int), .int .i64 ((i : Int) + 1), u133, u134, u135, u136, u137, u138, u139, u140, u141, u142, u143, u144, u145, u146, u147, u148, u149, u150, u151, u152, u153, u154, u155, u156, u157, u158, u159, u160, u161, u162, u163, u164, u165, u166, u167, u168, u169, u170, u171, u172, u173, u174, u175, u176, u177, u178, u179, u180, u181, u182, u183, u184, u185, u186, u187, u188, u189, u190, u191, u192, u193, u194, u195, u196, u197, u198, u199, u200, u201, u202, u203, u204, u205, u206, u207, u208, u209, u210, u211, u212, u213, u214, u215, u216, u217, u218, u219, u220, u221, u222, u223, u224, u225, u226, u227, u228, u229, u230, u231, u232, u233, u234, u235, u236, u237, u238, u239, u240, u241, u242, u243, u244, u245, u246, u247, u248, u249, u250, u251, u252, u253, u254, u255, u256, u257, u258, u259, u260, u261, u262, u263, u264, u265, u266, u267, u268, u269], []⟩ w')
    (hhit : ∀ t w', partS m cx.tlo cx.thi x p s = .inr (dx + 1) → LS m cx t w' → ∀ u16 u18 u19 u20 u21 u22 u24 u25 u133 u134 u135 u136 u137 u138 u139 u140 u141 u142 u143 u144 u145 u146 u147 u148 u149 u150 u151 u152 u153 u154 u155 u156 u157 u158 u159 u160 u161 u162 u163 u164 u165 u166 u167 u168 u169 u170 u171 u172 u173 u174 u175 u176 u177 u178 u179 u180 u181 u182 u183 u184 u185 u186 u187 u188 u189 u190 u191 u192 u193 u194 u195 u196 u197 u198 u199 u200 u201 u202 u203 u204 u205 u206 u207 u208 u209 u210 u211 u212 u213 u214 u215 u216 u217 u218 u219 u220 u221 u222 u223 u224 u225 u226 u227 u228 u229 u230 u231 u232 u233 u234 u235 u236 u237 u238 u239 u240 u241 u242 u243 u244 u245 u246 u247 u248 u249 u250 u251 u252 u253 u254 u255 u256 u257 u258 u259 u260 u261 u262 u263 u264 u265 u266 u267 u268 u269 : Value, Q .ret ⟨#[.pointer (some ⟨cx.mb, 0, none⟩), c1, c2, c3, c4, .pointer (some ⟨cx.bt, 0, none⟩), .int .i64 (dx + 1), c7, c8, c9, c10, .pointer (some ⟨cx.sb, 0, none⟩), c12, .int .i64 (x : Int), .int .i64 (dx + 1), c15, u16, c17, u18, u19, u20, u21, u22, c23, u24, u25, c26, c27, c28, c29, c30, c31, c32, c33, c34, c35, c36, c37, c38, c39, c40, c41, c42, c43, c44, c45, c46, c47, c48, c49, c50, c51, c52, c53, c54, c55, c56, c57, c58, c59, c60, c61, c62, c63, c64, c65, c66, c67, c68, c69, c70, c71, c72, c73, c74, c75, c76, c77, c78, c79, c80, c81, c82, c83, c84, c85, c86, c87, c88, c89, c90, c91, c92, c93, c94, c95, c96, c97, c98, c99, c100, c101, c102, c103, c104, c105, c106, c107, c108, c109, c110, c111, c112, c113, c114, c115, c116, c117, c118, c119, c120, c121, c122, c123, c124, c125, c126, c127, c128, c129, .slice ah Kh ch, .int .i64 (Kh : Int), .int .i64 (i : Int), u133, u134, u135, u136, u137, u138, u139, u140, u141, u142, u143, u144, u145, u146, u147, u148, u149, u150, u151, u152, u153, u154, u155, u156, u157, u158, u159, u160, u161, u162, u163, u164, u165, u166, u167, u168, u169, u170, u171, u172, u173, u174, u175, u176, u177, u178, u179, u180, u181, u182, u183, u184, u185, u186, u187, u188, u189, u190, u191, u192, u193, u194, u195, u196, u197, u198, u199, u200, u201, u202, u203, u204, u205, u206, u207, u208, u209, u210, u211, u212, u213, u214, u215, u216, u217, u218, u219, u220, u221, u222, u223, u224, u225, u226, u227, u228, u229, u230, u231, u232, u233, u234, u235, u236, u237, u238, u239, u240, u241, u242, u243, u244, u245, u246, u247, u248, u249, u250, u251, u252, u253, u254, u255, u256, u257, u258, u259, u260, u261, u262, u263, u264, u265, u266, u267, u268, u269], []⟩ w') :
    Code.wp Try.prog (unloop ((Try.f52.body.bind (findBody 6)).getD .skip)) Q ⟨#[.pointer (some ⟨cx.mb, 0, none⟩), c1, c2, c3, c4, .pointer (some ⟨cx.bt, 0, none⟩), c6, c7, c8, c9, c10, .pointer (some ⟨cx.sb, 0, none⟩), c12, .int .i64 (x : Int), .int .i64 (dx + 1), c15, c16, c17, c18, c19, c20, c21, c22, c23, c24, c25, c26, c27, c28, c29, c30, c31, c32, c33, c34, c35, c36, c37, c38, c39, c40, c41, c42, c43, c44, c45, c46, c47, c48, c49, c50, c51, c52, c53, c54, c55, c56, c57, c58, c59, c60, c61, c62, c63, c64, c65, c66, c67, c68, c69, c70, c71, c72, c73, c74, c75, c76, c77, c78, c79, c80, c81, c82, c83, c84, c85, c86, c87, c88, c89, c90, c91, c92, c93, c94, c95, c96, c97, c98, c99, c100, c101, c102, c103, c104, c105, c106, c107, c108, c109, c110, c111, c112, c113, c114, c115, c116, c117, c118, c119, c120, c121, c122, c123, c124, c125, c126, c127, c128, c129, .slice ah Kh ch, .int .i64 (Kh : Int), .int .i64 (i : Int), c133, c134, c135, c136, c137, c138, c139, c140, c141, c142, c143, c144, c145, c146, c147, c148, c149, c150, c151, c152, c153, c154, c155, c156, c157, c158, c159, c160, c161, c162, c163, c164, c165, c166, c167, c168, c169, c170, c171, c172, c173, c174, c175, c176, c177, c178, c179, c180, c181, c182, c183, c184, c185, c186, c187, c188, c189, c190, c191, c192, c193, c194, c195, c196, c197, c198, c199, c200, c201, c202, c203, c204, c205, c206, c207, c208, c209, c210, c211, c212, c213, c214, c215, c216, c217, c218, c219, c220, c221, c222, c223, c224, c225, c226, c227, c228, c229, c230, c231, c232, c233, c234, c235, c236, c237, c238, c239, c240, c241, c242, c243, c244, c245, c246, c247, c248, c249, c250, c251, c252, c253, c254, c255, c256, c257, c258, c259, c260, c261, c262, c263, c264, c265, c266, c267, c268, c269], []⟩ w := by
  have ixi := run_atN (P := Try.prog) 34 21 ah Kh ch b off .i64 i Try.underlying34 Try.size21 hah hi
  have hii : (i : Int) < (Kh : Int) := by omega
  have hn0 := hS.s0
  have hn1 := hS.s1
  have hn6 := hS.s6
  obtain ⟨hk1, hk2⟩ := hW.ek (by omega)
  obtain ⟨K, hK⟩ : ∃ K : Nat, m.k = (K : Int) := ⟨m.n6 / m.n0, hk2.symm⟩
  have hKn : m.n0 * K = m.n6 := by
    have h1 : K = m.n6 / m.n0 := by omega
    rw [h1]
    exact Nat.mul_div_cancel' (Nat.dvd_of_mod_eq_zero hk1)
  have hpk : p * K + K ≤ m.n6 := by
    rw [← hKn, ← Nat.succ_mul]
    exact Nat.mul_le_mul_right K hp
  have hKt : m.k.toNat = K := by omega
  obtain ⟨b0, o0, e0, k0, q0, y0, y7, y8⟩ : ∃ b0 o0, m.a0 = some ⟨b0, o0, none⟩ ∧ w.cell? ⟨b0, o0 + p, none⟩ = some (.int .i32 (m.f0 p)) ∧ (-2147483648 ≤ m.f0 p ∧ m.f0 p ≤ 2147483647) ∧ w.cell? ⟨cx.mb, 0, none⟩ = some (.slice m.a0 m.n0 m.c0) ∧ w.cell? ⟨cx.mb, 7, none⟩ = some (.slice m.a6 m.n6 m.c6) ∧ w.cell? ⟨cx.mb, 8, none⟩ = some (.int .i64 m.k) := by
    obtain ⟨q, d, i, o, S, hq, R, F, hg, hap, hb, hB, hs⟩ := L
    have hLw := hL.keep hB
    obtain ⟨b0, o0, e0, _, k0⟩ := hLw.h0 (by omega)
    exact ⟨b0, o0, e0, k0 p hp, hLw.q0 p hp, S.rm.cell (i := 0) (by omega), S.rm.cell (i := 7) (by omega), S.rm.cell (i := 8) (by omega)⟩
  obtain ⟨q01, q02⟩ := q0
  have ix0 := run_atN (P := Try.prog) 34 21 m.a0 m.n0 m.c0 b0 o0 .i32 p Try.underlying34 Try.size21 e0 hp
  have HL : Hid (Laid cx.w0 cx.B0 m) := hL
  have HWF : Hid (WF m) := hW
  have HSm : Hid (Small m) := hS
  have HON : Hid _ := hon
  have HHIT : Hid _ := hhit
  have HKK : Hid (m.k = (K : Int)) := hK
  have HKT : Hid (m.k.toNat = K) := hKt
  have HKN : Hid (m.n0 * K = m.n6) := hKn
  clear hL hW hS hon hhit hah e0 hk1 hk2 hKt hKn
  conv => arg 2; whnf
  by_cases hmx : m.f0 p = (x : Int)
  · rw [hmx] at k0 q01 q02
    have e1 : Hid (partS m cx.tlo cx.thi x p s = replsS m cx.tlo cx.thi x p s K) := by
      have h : partS m cx.tlo cx.thi x p s = replsS m cx.tlo cx.thi x p s K := by simp only [partS, hmx, if_true, HKT.out]
      exact h
    have hE1 : (p : Int) * m.k = ((p * K : Nat) : Int) := by rw [hK]; push_cast; rfl
    have hE2 : ((p : Int) + 1) * m.k = ((p * K + K : Nat) : Int) := by rw [hK, Int.add_mul]; push_cast; omega
    obtain ⟨av, cv, hcut, hHas⟩ := cut_has (P := Try.prog) 34 21 HL.out.h6 hcap Try.underlying34 Try.size21 ((p : Int) * m.k) (((p : Int) + 1) * m.k) (by rw [hE1]; omega) (by rw [hE1, hE2]; omega) (by rw [hE2]; omega)
    have hl1 : ((p : Int) * m.k).toNat = p * K := by rw [hE1]; exact Int.toNat_natCast _
    have hl2 : (((p : Int) + 1) * m.k).toNat = p * K + K := by rw [hE2]; exact Int.toNat_natCast _
    have hl : (((p : Int) + 1) * m.k).toNat - ((p : Int) * m.k).toNat = K := by rw [hl1, hl2]; omega
    rw [hl] at hcut hHas
    rw [hl1] at hHas
    have hb1 : 0 ≤ (p : Int) * m.k ∧ (p : Int) * m.k ≤ 262144 := by rw [hE1]; omega
    have hb2 : 0 ≤ ((p : Int) + 1) * m.k ∧ ((p : Int) + 1) * m.k ≤ 262144 := by rw [hE2]; omega
    obtain ⟨hb11, hb12⟩ := hb1
    obtain ⟨hb21, hb22⟩ := hb2
    clear hE1 hE2
    clear hl hl1 hl2 hK
    go_upto_region 24 with fail
    go_quiet (fail)
    have L1 := L.only ok (Only.drewN [] w nq)
    generalize w.drewN nq = wy at *
    clear y0 y7 y8 ix0 ixi k0 hcell hcut hb11 hb12 hb21 hb22 L
    have hK6 : K ≤ 262144 := by omega
    go_wp2
    go_loopw [167] (fun c wr => ∃ (j : Nat) (t : Stt), j ≤ K ∧ c = .int .i64 j ∧ Hid (replsS m cx.tlo cx.thi x p s j = .inl t) ∧ LS m cx t wr) (fun c _ => K - (intOf c).toNat)
    case atStart => exact ⟨0, s, by omega, rfl, rfl, L1⟩
    case round =>
      clear L1
      obtain ⟨j, t, hj, rfl, ej, Lj⟩ := hrel
      have hkp : Keeps x s t := Keeps.repls hxr j t ej.out
      have hdt : t.dep x = dx := hkp.2.trans hdx
      by_cases hjl : j < K
      · obtain ⟨bv, ov, ev, dv⟩ : ∃ bv ov, av = some ⟨bv, ov, none⟩ ∧ wr.cell? ⟨bv, ov + j, none⟩ = some (.int .i32 (m.f6 (p * K + j))) := by
          obtain ⟨q, d, i, o, S, hq, R, F, hg, hap, hb, hB, hs⟩ := Lj
          obtain ⟨bv, ov, ev, _, kv⟩ := hHas.keep hB (by omega)
          exact ⟨bv, ov, ev, kv j hjl⟩
        have hvr := HWF.out.re (p * K + j) (by omega)
        obtain ⟨v, hv⟩ : ∃ v : Nat, m.f6 (p * K + j) = (v : Int) := ⟨(m.f6 (p * K + j)).toNat, by omega⟩
        rw [hv] at dv
        have hvn : v < m.n1 := by omega
        have hnext : Hid (replsS m cx.tlo cx.thi x p s (j + 1) = replS m cx.tlo cx.thi x v t) := by
          have h : replsS m cx.tlo cx.thi x p s (j + 1) = replS m cx.tlo cx.thi x v t := by
            simp only [replsS, ej.out, HKT.out, hv, Int.toNat_natCast]
          exact h
        have hji : (j : Int) < (K : Int) := by omega
        clear hvr hv
        clear hji
        subst hdt
        refine repl9 m cx ok HL.out HWF.out HSm.out t x j K cv v (p : Int) av bv ov _ wr Lj hx hkp.1 hvn hjl hK6 ev dv _ _ _ _ _ _ _ _ _ _ _ _ _ _ _ _ _ _ _ _ _ _ _ _ _ _ _ _ _ _ _ _ _ _ _ _ _ _ _ _ _ _ _ _ _ _ _ _ _ _ _ _ _ _ _ _ _ _ _ _ _ _ _ _ _ _ _ _ _ _ _ _ _ _ _ _ _ _ _ _ _ _ _ _ _ _ _ _ _ _ _ _ _ _ _ _ _ _ _ _ _ _ _ _ _ _ _ _ _ _ _ _ _ _ _ _ _ _ _ _ _ _ _ _ _ _ _ _ _ _ _ _ _ _ _ _ _ _ _ _ _ _ _ _ _ _ _ _ _ _ _ _ _ _ _ _ _ _ _ _ _ _ _ _ _ _ _ _ _ _ _ _ _ _ _ _ _ _ _ _ _ _ _ _ _ _ _ _ _ _ _ _ _ _ _ _ _ _ _ _ _ _ _ _ _ _ _ _ _ _ _ _ _ _ _ _ _ _ _ _ _ _ _ _ _ _ _ _ _ _ _ _ _ _ _ _ _ _ _ _ _ _ _ _ _ _ _ _ _ _ _ _ _ _ _ _ _ _ _ _ _ ?_ ?_
        · intro t' w' h1 L'
          intros
          have HN : Hid (replsS m cx.tlo cx.thi x p s (j + 1) = .inl t') := hnext.out.trans h1
          clear hnext h1 Lj dv
          (try simp only [Exit.then])
          go_roundw
          case rel => (first | exact ⟨j + 1, t', by omega, by go_num, HN, L'⟩ | ((repeat apply Exists.intro); exact ⟨⟨j + 1, t', by omega, by go_num, HN, L'⟩, rfl⟩))
          case measure => simp [intOf]; omega
        · intro w' h1 L'
          intros
          have HN : partS m cx.tlo cx.thi x p s = .inr (t.dep x + 1) := e1.out.trans (repls_hit (hnext.out.trans h1) K (by omega))
          clear hnext h1 Lj dv
          (try simp only [Exit.inBlock, Exit.then])
          have h := HHIT.out _ _ HN L'
          apply h
      · obtain rfl : j = K := by omega
        go_wp2
        have h := HON.out t _ (e1.out.trans ej.out) Lj
        apply h
  · have e1 : Hid (partS m cx.tlo cx.thi x p s = .inl s) := by
      have h : partS m cx.tlo cx.thi x p s = .inl s := by simp only [partS, if_neg hmx]
      exact h
    go_wp2
    have h := HON.out s _ e1.out L
    apply h
end Go.Proofs.Qxb6602564a
