import Derived.Test.Qxb6602564aLyR28
import Derived.Deep.RegionHeld3
import Derived.Deep.CutRange
import Derived.BigQuiet
import Derived.Lib.QuietBelow
namespace Go.Proofs.Qxb6602564a
open Go.RowKit Go.Sort
set_option linter.unusedVariables false
def findBody (n : Nat) : Code → Option Code
  | .block k c => if k = n then some c else findBody n c
  | .loop c => findBody n c
  | .scope c => findBody n c
  | .seq a b => match findBody n a with
    | some c => some c
    | none => findBody n b
  | .cond _ a b => match findBody n a with
    | some c => some c
    | none => findBody n b
  | _ => none
theorem un_le_sum (m : M) {n : Nat} : ∀ {k : Nat}, n < k → m.un n ≤ sumU m k
  | 0, h => by omega
  | k + 1, h => by
    simp only [sumU]
    by_cases e : n = k
    · subst e; omega
    · have := un_le_sum m (n := n) (k := k) (by omega); omega
theorem sum_mono (m : M) {j : Nat} : ∀ {k : Nat}, j ≤ k → sumU m j ≤ sumU m k
  | 0, h => by rw [show j = 0 by omega]; exact Nat.le_refl _
  | k + 1, h => by
    by_cases e : j = k + 1
    · rw [e]; exact Nat.le_refl _
    · have := sum_mono m (j := j) (k := k) (by omega); simp only [sumU]; omega
theorem Try.siz81 : (Try.prog.info? 81).map (·.size) = some 3 := by kernel_rfl
def unloop : Code → Code
  | .loop c => c
  | c => c
set_option maxRecDepth 1000000 in
set_option maxHeartbeats 8000000 in
theorem repl9 (m : M) (cx : Cx) (ok : cx.ok) (hL : Laid cx.w0 cx.B0 m) (hW : WF m) (hS : Small m) (s : Stt) (x j K cv v : Nat) (pv : Int) (av : Option Addr) (b off : Nat) (Q : Exit → Act → World → Prop) (wr : World)
    (L : LS m cx s wr) (hx : x < m.n1) (hxr : s.rc x = true) (hv : v < m.n1) (hj : j < K) (hK6 : K ≤ 262144) (hav : av = some ⟨b, off, none⟩) (hcell : wr.cell? ⟨b, off + j, none⟩ = some (.int .i32 (v : Int)))
    (c1 c2 c3 c4 c6 c7 c8 c9 c10 c12 c15 c17 c18 c19 c20 c21 c22 c23 c24 c25 c26 c27 c28 c29 c30 c31 c32 c33 c34 c35 c36 c37 c38 c39 c40 c41 c42 c43 c44 c45 c46 c47 c48 c49 c50 c51 c52 c53 c54 c55 c56 c57 c58 c59 c60 c61 c62 c63 c64 c65 c66 c67 c68 c69 c70 c71 c72 c73 c74 c75 c76 c77 c78 c79 c80 c81 c82 c83 c84 c85 c86 c87 c88 c89 c90 c91 c92 c93 c94 c95 c96 c97 c98 c99 c100 c101 c102 c103 c104 c105 c106 c107 c108 c109 c110 c111 c112 c113 c114 c115 c116 c117 c118 c119 c120 c121 c122 c123 c124 c125 c126 c127 c128 c129 c130 c131 c132 c133 c134 c135 c136 c137 c138 c139 c140 c141 c142 c143 c144 c145 c146 c147 c148 c149 c150 c151 c152 c153 c154 c155 c156 c157 c158 c159 c160 c161 c162 c163 c164 c168 c169 c170 c171 c172 c173 c174 c175 c176 c177 c178 c179 c180 c181 c182 c183 c184 c185 c186 c187 c188 c189 c190 c191 c192 c193 c194 c195 c196 c197 c198 c199 c200 c201 c202 c203 c204 c205 c206 c207 c208 c209 c210 c211 c212 c213 c214 c215 c216 c217 c218 c219 c220 c221 c222 c223 c224 c225 c226 c227 c228 c229 c230 c231 c232 c233 c234 c235 c236 c237 c238 c239 c240 c241 c242 c243 c244 c245 c246 c247 c248 c249 c250 c251 c252 c253 c254 c255 c256 c257 c258 c259 c260 c261 c262 c263 c264 c265 c266 c267 c268 c269 : Value)
    (hon : ∀ t w', replS m cx.tlo cx.thi x v s = .inl t → LS m cx t w' → ∀ u18 u19 u20 u21 u22 u24 u25 u168 u169 u170 u171 u172 u173 u174 u175 u176 u177 u178 u179 u180 u181 u182 u183 u184 u185 u186 u187 u188 u189 u190 u191 u192 u193 u194 u195 u196 u197 u198 u199 u200 u201 u202 u203 u204 u205 u206 u207 u208 u209 u210 u211 u212 u213 u214 u215 u216 u217 u218 u219 u220 u221 u222 u223 u224 u225 u226 u227 u228 u229 u230 u231 u232 u233 u234 u235 u236 u237 u238 u239 u240 u241 u242 u243 u244 u245 u246 u247 u248 u249 u250 u251 u252 u253 u254 u255 u256 u257 u258 u259 u260 u261 u262 u263 u264 u265 u266 u267 u268 : Value, Q .normal ⟨#[.pointer (some ⟨cx.mb, 0, none⟩), c1, c2, c3, c4, .pointer (some ⟨cx.bt, 0, none⟩), c6, c7, c8, c9, c10, .pointer (some ⟨cx.sb, 0, none⟩), c12, .int .i64 (x : Int), .int .i64 (s.dep x + 1), c15, .int .i32 pv, c17, u18, u19, u20, u21, u22, c23, u24, u25, c26, c27, c28, c29, c30, c31, c32, c33, c34, c35, c36, c37, c38, c39, c40, c41, c42, c43, c44, c45, c46, c47, c48, c49, c50, c51, c52, c53, c54, c55, c56, c57, c58, c59, c60, c61, c62, c63, c64, c65, c66, c67, c68, c69, c70, c71, c72, c73, c74, c75, c76, c77, c78, c79, c80, c81, c82, c83, c84, c85, c86, c87, c88, c89, c90, c91, c92, c93, c94, c95, c96, c97, c98, c99, c100, c101, c102, c103, c104, c105, c106, c107, c108, c109, c110, c111, c112, c113, c114, c115, c116, c117, c118, c119, c120, c121, c122, c123, c124, c125, c126, c127, c128, c129, c130, c131, c132, c133, c134, c135, c136, c137, c138, c139, c140, c141, c142, c143, c144, c145, c146, c147, c148, c149, c150, c151, c152, c153, c154, c155, c156, c157, c158, c159, c160, c161, c162, c163, c164, .slice av K cv, .int .i64 (K : Int), .int .i64 ((j : Int) + 1), u168, u169, u170, u171, u172, u173, u174, u175, u176, u177, u178, u179, u180, u181, u182, u183, u184, u185, u186, u187, u188, u189, u190, u191, u192, u193, u194, u195, u196, u197, u198, u199, u200, u201, u202, u203, u204, u205, u206, u207, u208, u209, u210, u211, u212, u213, u214, u215, u216, u217, u218, u219, u220, u221, u222, u223, u224, u225, u226, u227, u228, u229, u230, u231, u232, u233, u234, u235, u236, u237, u238, u239, u240, u241, u242, u243, u244, u245, u246, u247, u248, u249, u250, u251, u252, u253, u254, u255, u256, u257, u258, u259, u260, u261, u262, u263, u264, u265, u266, u267, u268, c269], []⟩ w')
    (hhit : ∀ w', replS m cx.tlo cx.thi x v s = .inr (s.dep x + 1) → LS m cx s w' → ∀ u18 u19 u20 u21 u22 u24 u25 u168 u169 u170 u171 u172 u173 u174 u175 u176 u177 u178 u179 u180 u181 u182 u183 u184 u185 u186 u187 u188 u189 u190 u191 u192 u193 u194 u195 u196 u197 u198 u199 u200 u201 u202 u203 u204 u205 u206 u207 u208 u209 u210 u211 u212 u213 u214 u215 u216 u217 u218 u219 u220 u221 u222 u223 u224 u225 u226 u227 u228 u229 u230 u231 u232 u233 u234 u235 u236 u237 u238 u239 u240 u241 u242 u243 u244 u245 u246 u247 u248 u249 u250 u251 u252 u253 u254 u255 u256 u257 u258 u259 u260 u261 u262 u263 u264 u265 u266 u267 u268 : Value, Q .ret ⟨#[.pointer (some ⟨cx.mb, 0, none⟩), c1, c2, c3, c4, .pointer (some ⟨cx.bt, 0, none⟩), .int .i64 (s.dep x + 1), c7, c8, c9, c10, .pointer (some ⟨cx.sb, 0, none⟩), c12, .int .i64 (x : Int), .int .i64 (s.dep x + 1), c15, .int .i32 pv, c17, u18, u19, u20, u21, u22, c23, u24, u25, c26, c27, c28, c29, c30, c31, c32, c33, c34, c35, c36, c37, c38, c39, c40, c41, c42, c43, c44, c45, c46, c47, c48, c49, c50, c51, c52, c53, c54, c55, c56, c57, c58, c59, c60, c61, c62, c63, c64, c65, c66, c67, c68, c69, c70, c71, c72, c73, c74, c75, c76, c77, c78, c79, c80, c81, c82, c83, c84, c85, c86, c87, c88, c89, c90, c91, c92, c93, c94, c95, c96, c97, c98, c99, c100, c101, c102, c103, c104, c105, c106, c107, c108, c109, c110, c111, c112, c113, c114, c115, c116, c117, c118, c119, c120, c121, c122, c123, c124, c125, c126, c127, c128, c129, c130, c131, c132, c133, c134, c135, c136, c137, c138, c139, c140, c141, c142, c143, c144, c145, c146, c147, c148, c149, c150, c151, c152, c153, c154, c155, c156, c157, c158, c159, c160, c161, c162, c163, c164, .slice av K cv, .int .i64 (K : Int), .int .i64 (j : Int), u168, u169, u170, u171, u172, u173, u174, u175, u176, u177, u178, u179, u180, u181, u182, u183, u184, u185, u186, u187, u188, u189, u190, u191, u192, u193, u194, u195, u196, u197, u198, u199, u200, u201, u202, u203, u204, u205, u206, u207, u208, u209, u210, u211, u212, u213, u214, u215, u216, u217, u218, u219, u220, u221, u222, u223, u224, u225, u226, u227, u228, u229, u230, u231, u232, u233, u234, u235, u236, u237, u238, u239, u240, u241, u242, u243, u244, u245, u246, u247, u248, u249, u250, u251, u252, u253, u254, u255, u256, u257, u258, u259, u260, u261, u262, u263, u264, u265, u266, u267, u268, c269], []⟩ w') :
    Code.wp Try.prog (unloop ((Try.f52.body.bind (findBody 8)).getD .skip)) Q ⟨#[.pointer (some ⟨cx.mb, 0, none⟩), c1, c2, c3, c4, .pointer (some ⟨cx.bt, 0, none⟩), c6, c7, c8, c9, c10, .pointer (some ⟨cx.sb, 0, none⟩), c12, .int .i64 (x : Int), .int .i64 (s.dep x + 1), c15, .int .i32 pv, c17, c18, c19, c20, c21, c22, c23, c24, c25, c26, c27, c28, c29, c30, c31, c32, c33, c34, c35, c36, c37, c38, c39, c40, c41, c42, c43, c44, c45, c46, c47, c48, c49, c50, c51, c52, c53, c54, c55, c56, c57, c58, c59, c60, c61, c62, c63, c64, c65, c66, c67, c68, c69, c70, c71, c72, c73, c74, c75, c76, c77, c78, c79, c80, c81, c82, c83, c84, c85, c86, c87, c88, c89, c90, c91, c92, c93, c94, c95, c96, c97, c98, c99, c100, c101, c102, c103, c104, c105, c106, c107, c108, c109, c110, c111, c112, c113, c114, c115, c116, c117, c118, c119, c120, c121, c122, c123, c124, c125, c126, c127, c128, c129, c130, c131, c132, c133, c134, c135, c136, c137, c138, c139, c140, c141, c142, c143, c144, c145, c146, c147, c148, c149, c150, c151, c152, c153, c154, c155, c156, c157, c158, c159, c160, c161, c162, c163, c164, .slice av K cv, .int .i64 (K : Int), .int .i64 (j : Int), c168, c169, c170, c171, c172, c173, c174, c175, c176, c177, c178, c179, c180, c181, c182, c183, c184, c185, c186, c187, c188, c189, c190, c191, c192, c193, c194, c195, c196, c197, c198, c199, c200, c201, c202, c203, c204, c205, c206, c207, c208, c209, c210, c211, c212, c213, c214, c215, c216, c217, c218, c219, c220, c221, c222, c223, c224, c225, c226, c227, c228, c229, c230, c231, c232, c233, c234, c235, c236, c237, c238, c239, c240, c241, c242, c243, c244, c245, c246, c247, c248, c249, c250, c251, c252, c253, c254, c255, c256, c257, c258, c259, c260, c261, c262, c263, c264, c265, c266, c267, c268, c269], []⟩ wr := by
  have ixj := run_atN (P := Try.prog) 34 21 av K cv b off .i64 j Try.underlying34 Try.size21 hav hj
  have hji : (j : Int) < (K : Int) := by omega
  have hn1 := hS.s1
  have hn9 := hS.s9
  have HL : Hid (Laid cx.w0 cx.B0 m) := hL
  have HWF : Hid (WF m) := hW
  have HSm : Hid (Small m) := hS
  have HON : Hid _ := hon
  have HHIT : Hid _ := hhit
  clear hL hW hS hon hhit hav
  conv => arg 2; whnf
  by_cases hvx : v = x
  · have e1 : replS m cx.tlo cx.thi x v s = .inl s := by simp [replS, hvx]
    have hvi : (v : Int) = (x : Int) := by omega
    go_wp2
    have h := HON.out s _ e1 L
    apply h
  · have hvi : ¬ (v : Int) = (x : Int) := by omega
    have hvb : ((v : Int) == (x : Int)) = false := by simpa using hvi
    obtain ⟨n, hn⟩ : ∃ n : Nat, m.f1 v = (n : Int) := ⟨(m.f1 v).toNat, by have := HWF.out.un v hv; omega⟩
    have hnn : n < m.n9 := by have := HWF.out.un v hv; omega
    have lb := ok.lb
    have HLA : Hid (LS m cx s wr) := L
    have HN : Hid (m.f1 v = (n : Int)) := hn
    have HVX : Hid (¬ v = x) := hvx
    obtain ⟨b1, o1, e1, k1⟩ : ∃ b1 o1, m.a1 = some ⟨b1, o1, none⟩ ∧ ∀ w', Only [] wr w' → w'.cell? ⟨b1, o1 + v, none⟩ = some (.int .i32 (n : Int)) := by
      obtain ⟨q, d, i, o, S, hq, R, F, hg, hap, hb, hB, hs⟩ := L
      obtain ⟨b1, o1, e1, _, k1⟩ := (HL.out.keep hB).h1 (by omega)
      exact ⟨b1, o1, e1, fun w' h => by rw [← HN.out]; exact h.cell (by simp) (k1 v hv)⟩
    have ix1 := run_atN (P := Try.prog) 34 21 m.a1 m.n1 m.c1 b1 o1 .i32 v Try.underlying34 Try.size21 e1 hv
    have RL : ∀ w', Only [] wr w' → Row w' cx.mb 73 22 (mcell m cx.sb cx.hb cx.giv) ∧ Laid w' cx.B0 m := by
      intro w' h
      obtain ⟨q, d, i, o, S, hq, R, F, hg, hap, hb, hB, hs⟩ := L
      exact ⟨S.rm.keep h (by simp), HL.out.keep (hB.trans (h.below (by omega) (by simp)))⟩
    clear e1 L hn hvx
    go_upto_region 28 with fail
    refine reg28 m cx b1 o1 v n pv (fun i => ([.pointer (some ⟨cx.mb, 0, none⟩), c1, c2, c3, c4, .pointer (some ⟨cx.bt, 0, none⟩), c6, c7, c8, c9, c10, .pointer (some ⟨cx.sb, 0, none⟩), c12, .int .i64 (x : Int), .int .i64 (s.dep x + 1), c15, .int .i32 pv, c17, .int .i32 (v : Int), c19, c20, c21, c22, c23, c24, c25, c26, c27, c28, c29, c30, c31, c32, c33, c34, c35, c36, c37, c38, c39, c40, c41, c42, c43, c44, c45, c46, c47, c48, c49, c50, c51, c52, c53, c54, c55, c56, c57, c58, c59, c60, c61, c62, c63, c64, c65, c66, c67, c68, c69, c70, c71, c72, c73, c74, c75, c76, c77, c78, c79, c80, c81, c82, c83, c84, c85, c86, c87, c88, c89, c90, c91, c92, c93, c94, c95, c96, c97, c98, c99, c100, c101, c102, c103, c104, c105, c106, c107, c108, c109, c110, c111, c112, c113, c114, c115, c116, c117, c118, c119, c120, c121, c122, c123, c124, c125, c126, c127, c128, c129, c130, c131, c132, c133, c134, c135, c136, c137, c138, c139, c140, c141, c142, c143, c144, c145, c146, c147, c148, c149, c150, c151, c152, c153, c154, c155, c156, c157, c158, c159, c160, c161, c162, c163, c164, .slice av K cv, .int .i64 (K : Int), .int .i64 (j : Int), .bool true, .pointer (some ⟨b, off + j, none⟩), .int .i32 (v : Int), .int .i32 (v : Int), .int .i64 (v : Int), .int .i64 (x : Int), .bool false, c175, c176, c177, c178, c179, c180, c181, c182, c183, c184, c185, c186, c187, c188, c189, c190, c191, c192, c193, c194, c195, c196, c197, c198, c199, c200, c201, c202, c203, c204, c205, c206, c207, c208, c209, c210, c211, c212, c213, c214, c215, c216, c217, c218, c219, c220, c221, c222, c223, c224, c225, c226, c227, c228, c229, c230, c231, c232, c233, c234, c235, c236, c237, c238, c239, c240, c241, c242, c243, c244, c245, c246, c247, c248, c249, c250, c251, c252, c253, c254, c255, c256, c257, c258, c259, c260, c261, c262, c263, c264, c265, c266, c267, c268, c269] : List Value).getD i undef) _ wr hv hn1 rfl rfl rfl (fun w' h => (RL w' h).1.cell (i := 1) (by omega)) ix1 k1 (fun w' h => canTake59 m cx.mb cx.sb cx.hb cx.giv v cx.B0 w' (RL w' h).1 (RL w' h).2 HWF.out hv) ?_
    intro wq bx f Oq hbx Rx h19 h20 h21
    have hfr : fr28 (fun i => ([.pointer (some ⟨cx.mb, 0, none⟩), c1, c2, c3, c4, .pointer (some ⟨cx.bt, 0, none⟩), c6, c7, c8, c9, c10, .pointer (some ⟨cx.sb, 0, none⟩), c12, .int .i64 (x : Int), .int .i64 (s.dep x + 1), c15, .int .i32 pv, c17, .int .i32 (v : Int), c19, c20, c21, c22, c23, c24, c25, c26, c27, c28, c29, c30, c31, c32, c33, c34, c35, c36, c37, c38, c39, c40, c41, c42, c43, c44, c45, c46, c47, c48, c49, c50, c51, c52, c53, c54, c55, c56, c57, c58, c59, c60, c61, c62, c63, c64, c65, c66, c67, c68, c69, c70, c71, c72, c73, c74, c75, c76, c77, c78, c79, c80, c81, c82, c83, c84, c85, c86, c87, c88, c89, c90, c91, c92, c93, c94, c95, c96, c97, c98, c99, c100, c101, c102, c103, c104, c105, c106, c107, c108, c109, c110, c111, c112, c113, c114, c115, c116, c117, c118, c119, c120, c121, c122, c123, c124, c125, c126, c127, c128, c129, c130, c131, c132, c133, c134, c135, c136, c137, c138, c139, c140, c141, c142, c143, c144, c145, c146, c147, c148, c149, c150, c151, c152, c153, c154, c155, c156, c157, c158, c159, c160, c161, c162, c163, c164, .slice av K cv, .int .i64 (K : Int), .int .i64 (j : Int), .bool true, .pointer (some ⟨b, off + j, none⟩), .int .i32 (v : Int), .int .i32 (v : Int), .int .i64 (v : Int), .int .i64 (x : Int), .bool false, c175, c176, c177, c178, c179, c180, c181, c182, c183, c184, c185, c186, c187, c188, c189, c190, c191, c192, c193, c194, c195, c196, c197, c198, c199, c200, c201, c202, c203, c204, c205, c206, c207, c208, c209, c210, c211, c212, c213, c214, c215, c216, c217, c218, c219, c220, c221, c222, c223, c224, c225, c226, c227, c228, c229, c230, c231, c232, c233, c234, c235, c236, c237, c238, c239, c240, c241, c242, c243, c244, c245, c246, c247, c248, c249, c250, c251, c252, c253, c254, c255, c256, c257, c258, c259, c260, c261, c262, c263, c264, c265, c266, c267, c268, c269] : List Value).getD i undef) f = (⟨#[.pointer (some ⟨cx.mb, 0, none⟩), c1, c2, c3, c4, .pointer (some ⟨cx.bt, 0, none⟩), c6, c7, c8, c9, c10, .pointer (some ⟨cx.sb, 0, none⟩), c12, .int .i64 (x : Int), .int .i64 (s.dep x + 1), c15, .int .i32 pv, c17, .int .i32 (v : Int), .int .i32 (n : Int), .bool (take m v), .pointer (some ⟨bx, 0, none⟩), c22, c23, c24, c25, c26, c27, c28, c29, c30, c31, c32, c33, c34, c35, c36, c37, c38, c39, c40, c41, c42, c43, c44, c45, c46, c47, c48, c49, c50, c51, c52, c53, c54, c55, c56, c57, c58, c59, c60, c61, c62, c63, c64, c65, c66, c67, c68, c69, c70, c71, c72, c73, c74, c75, c76, c77, c78, c79, c80, c81, c82, c83, c84, c85, c86, c87, c88, c89, c90, c91, c92, c93, c94, c95, c96, c97, c98, c99, c100, c101, c102, c103, c104, c105, c106, c107, c108, c109, c110, c111, c112, c113, c114, c115, c116, c117, c118, c119, c120, c121, c122, c123, c124, c125, c126, c127, c128, c129, c130, c131, c132, c133, c134, c135, c136, c137, c138, c139, c140, c141, c142, c143, c144, c145, c146, c147, c148, c149, c150, c151, c152, c153, c154, c155, c156, c157, c158, c159, c160, c161, c162, c163, c164, .slice av K cv, .int .i64 (K : Int), .int .i64 (j : Int), .bool true, .pointer (some ⟨b, off + j, none⟩), .int .i32 (v : Int), .int .i32 (v : Int), .int .i64 (v : Int), .int .i64 (x : Int), .bool false, f 175, f 176, f 177, f 178, f 179, f 180, f 181, f 182, f 183, f 184, f 185, f 186, f 187, f 188, c189, c190, c191, c192, c193, c194, c195, c196, c197, c198, c199, c200, c201, c202, c203, c204, c205, c206, c207, c208, c209, c210, c211, c212, c213, c214, c215, c216, c217, c218, c219, c220, c221, c222, c223, c224, c225, c226, c227, c228, c229, c230, c231, c232, c233, c234, c235, c236, c237, c238, c239, c240, c241, c242, c243, c244, c245, c246, c247, c248, c249, c250, c251, c252, c253, c254, c255, c256, c257, c258, c259, c260, c261, c262, c263, c264, c265, c266, c267, c268, c269], []⟩ : Act) := by
      simp only [fr28, h19, h20, h21]
      rfl
    rw [hfr]
    clear hfr h19 h20 h21
    clear ix1 k1 RL ixj hcell
    have Lq := HLA.out.only ok Oq
    have hbb : cx.base ≤ bx := by
      obtain ⟨q, d, i, o, S, hq, R, F, hg, hap, hb, hB, hs⟩ := HLA.out
      omega
    clear Oq hbx HLA wr
    -- is the chain done?
    have hat9 : ∃ b9 o9, m.a9 = some ⟨b9, o9, none⟩ ∧ wq.cell? ⟨b9, o9 + n, none⟩ = some (.int .i64 (m.f9 n)) ∧ wq.cell? ⟨cx.mb, 10, none⟩ = some (.slice m.a9 m.n9 m.c9) ∧ wq.cell? ⟨cx.bt, 0, none⟩ = some (.int .i64 cx.tlo) ∧ wq.cell? ⟨cx.bt, 1, none⟩ = some (.int .i64 cx.thi) := by
      obtain ⟨q, d, i, o, S, hq, R, F, hg, hap, hb, hB, hs⟩ := Lq
      obtain ⟨b9, o9, e9, _, k9⟩ := (HL.out.keep hB).h9 (by omega)
      exact ⟨b9, o9, e9, k9 n hnn, S.rm.cell (i := 10) (by omega), hb.cell (i := 0) (by omega), hb.cell (i := 1) (by omega)⟩
    obtain ⟨b9, o9, e9, x1, x2, x3, x4⟩ := hat9
    have ix9 := run_atN (P := Try.prog) 26 3 m.a9 m.n9 m.c9 b9 o9 .i32 n Try.underlying26 Try.size3 e9 hnn
    clear e9
    go_upto_region 29 with fail
    go_cut [20, 200] from 189 to 200 (fun s t wx => s = .bool (take m v) ∧ t = .bool (take m v && hasP cx.tlo cx.thi (m.f9 n)) ∧ Only [] wq wx)
    case first => as_aux_lemma =>
      cases htk : take m v with
      | false =>
        have HTK : Hid (take m v = _) := htk
        clear x1 x2 x3 x4 ix9 htk
        go_quiet (fail)
        go_wp2
        go_meet
        case rel => exact ⟨by rw [HTK.out], by rw [HTK.out]; simp, Only.drewN _ _ _⟩
      | true =>
        have g1 := cell_regrown x1
        have g2 := cell_regrown x2
        have g3 := cell_regrown x3
        have g4 := cell_regrown x4
        have cF := fun d os => Calls.regrown_of ((has56 cx.tlo cx.thi (m.f9 n) (grow (redrawn wq d) os)).mono (fun e w' h => ⟨h.1, h.2.below (Nat.le_refl _) (by simp)⟩))
        have HTK : Hid (take m v = _) := htk
        clear x1 x2 x3 x4 htk
        refine wp_region_quiet_below (by kernel_rfl) (by kernel_rfl) ?_
        repeat (quiet_step (exact cF _ _))
        refine wpQuiet_nil ?_
        intro _ hw'
        obtain ⟨⟨dq, osq⟩, hw''⟩ := hw'
        have ho1 : Only [] wq (grow (redrawn wq dq) osq) := Only.of_below (below_regrown wq dq osq)
        subst hw''
        generalize grow (redrawn wq dq) osq = wz at *
        clear cF g1 g2 g3 g4 ix9
        go_wp2
        go_meet
        case rel => exact ⟨by rw [HTK.out], by rw [HTK.out]; simp, ho1⟩
    case rest =>
      obtain ⟨rfl, rfl, Oc⟩ := hcut
      have Lc := Lq.only ok Oc
      have Rc := Rx.keep Oc (by simp)
      clear Lq Rx Oc x1 x2 x3 x4 ix9 wq
      obtain ⟨wd, rfl⟩ : ∃ wd : World, wd = wc := ⟨_, rfl⟩
      have hnt : (m.f1 v).toNat = n := by have := HN.out; omega
      cases hhit : (take m v && hasP cx.tlo cx.thi (m.f9 n)) with
      | true =>
        have e1 : Hid (replS m cx.tlo cx.thi x v s = .inr (s.dep x + 1)) := by
          have h : replS m cx.tlo cx.thi x v s = .inr (s.dep x + 1) := by simp only [replS, if_neg HVX.out, hnt, hhit, if_true]
          exact h
        clear hnt hhit Rc
        go_wp2
        have h := HHIT.out _ e1.out Lc
        apply h
      | false =>
        have HH : Hid ((take m v && hasP cx.tlo cx.thi (m.f9 n)) = false) := hhit
        obtain ⟨s1, hs1⟩ : ∃ s1, s1 = if s.rc v then s else s.reach x v := ⟨_, rfl⟩
        have hrep : Hid (replS m cx.tlo cx.thi x v s = if (take m v && !s1.op n) = true then .inl (hubS m x n { s1 with op := fun j => if j = n then true else s1.op j } (m.un n)) else .inl s1) := by
          have h : replS m cx.tlo cx.thi x v s = if (take m v && !s1.op n) = true then .inl (hubS m x n { s1 with op := fun j => if j = n then true else s1.op j } (m.un n)) else .inl s1 := by
            rw [hs1]
            simp only [replS, if_neg HVX.out, hnt, hhit, Bool.false_eq_true, if_false]
          exact h
        have HS1 : Hid (s1 = _) := hs1
        clear hhit hs1 hnt
        obtain ⟨i, hrc, r60⟩ : ∃ i : Nat → Int, rchd cx.N i v = s.rc v ∧ Calls Try.prog 60 #[.pointer (some ⟨cx.sb, 0, none⟩), .int .i64 (v : Int)] wd fun e w' => RetV (rchd cx.N i v) wd e w' := by
          obtain ⟨q, d, i, o, S, hq, R, F, hg, hap, hb, hB, hs⟩ := Lc
          exact ⟨i, R.rc v hv, reached60 m cx.mb cx.sb cx.fb cx.vb cx.db cx.ib cx.hb q cx.giv cx.N d i o v wd S hv⟩
        rw [hrc] at r60
        clear hrc
        go_wp2_with fail
        refine r60.mono ?_
        rintro e w2 ⟨rfl, O2⟩
        have L2 := Lc.only ok O2
        have R2 := Rc.keep O2 (by simp)
        clear Lc Rc O2 r60
        go_upto_if 206 with fail
        go_cut [] from 202 to 212 (fun wx => LS m cx s1 wx ∧ Row wx bx 77 2 (p32 pv (v : Int)))
        case first => as_aux_lemma =>
          cases hrv : s.rc v with
          | true =>
            have e1 : Hid (s1 = s) := by rw [HS1.out, hrv]; rfl
            clear hrv
            go_wp2
            go_meet
            case rel => exact ⟨by rw [e1.out]; exact L2, R2⟩
          | false =>
            have e1 : Hid (s1 = s.reach x v) := by rw [HS1.out, hrv]; rfl
            have y0 : w2.cell? ⟨bx, 0, none⟩ = some (.int .i32 pv) := R2.cell (i := 0) (by omega)
            have y1 : w2.cell? ⟨bx, 1, none⟩ = some (.int .i32 (v : Int)) := R2.cell (i := 1) (by omega)
            have st := reachLS (pv := pv) (tv := (v : Int)) ok HSm.out HWF.out.e8 L2 hx hxr hv hrv
            clear hrv
            go_wp2_with fail
            refine st.mono ?_
            rintro e w3 ⟨rfl, L3, hrow⟩
            have R3 := hrow bx 2 _ hbb R2
            clear st hrow L2 R2 y0 y1
            go_wp2
            go_meet
            case rel => exact ⟨by rw [e1.out]; exact L3, R3⟩
        case rest =>
          obtain ⟨L1, R1⟩ := hcut
          clear L2 R2 w2 wd
          obtain ⟨wd, rfl⟩ : ∃ wd : World, wd = wc := ⟨_, rfl⟩
          obtain ⟨o, g, hop, hgo, y5, y21, kg⟩ : ∃ (o : Nat → Int) (g : Nat → Value), (o n == cx.N) = s1.op n ∧ g (n * 3) = .int .i64 (o n) ∧ wd.cell? ⟨cx.sb, 5, none⟩ = some (.int .i64 cx.N) ∧ wd.cell? ⟨cx.mb, 21, none⟩ = some (.slice (some ⟨cx.hb, 0, none⟩) m.n9 m.n9) ∧ Row wd cx.hb 81 (m.n9 * 3) g := by
            obtain ⟨q, d, i, o, S, hq, R, F, hg, hap, hb, hB, hs⟩ := L1
            obtain ⟨g, rh, hh⟩ := S.rh
            exact ⟨o, g, R.op n hnn, hh n hnn, S.rs.cell (i := 5) (by omega), S.rm.cell (i := 21) (by omega), rh⟩
          have yo : wd.cell? ⟨cx.hb, n * 3, none⟩ = some (.int .i64 (o n)) := by rw [kg.cell (by omega), hgo]
          have yo1 := kg.cell (i := n * 3 + 1) (by omega)
          have yo2 := kg.cell (i := n * 3 + 2) (by omega)
          have fz := kg.frozen
          have ixh : ∀ w0 : World, (Instr.indexAt 70 (.slice (some ⟨cx.hb, 0, none⟩) m.n9 m.n9) (.int .i32 (n : Int))).run Try.prog w0 = .ok (.pointer (some ⟨cx.hb, n * 3, none⟩)) w0 := fun w0 => by
            have h2 : Try.prog.elem 70 = 81 := by simp [Program.elem, Try.underlying70]
            rw [run_indexAt_slice w0 70 ⟨cx.hb, 0, none⟩ m.n9 m.n9 .i32 (n : Int) (by rw [h2]; exact Try.underlying70), if_pos ⟨by omega, by omega⟩, h2]
            cases hq : Try.prog.info? 81 with
            | none => have h := Try.siz81; simp [hq] at h
            | some inf =>
              have hz : inf.size = 3 := by have h := Try.siz81; simpa [hq] using h
              have e : (⟨cx.hb, 0, none⟩ : Addr).add (n * 3) = ⟨cx.hb, n * 3, none⟩ := by unfold Addr.add; split <;> simp_all
              simp [sizeOf, typeInfo, hq, hz, e]
          clear hgo
          cases htk : take m v with
          | false =>
            have e1 : Hid (replS m cx.tlo cx.thi x v s = .inl s1) := by rw [hrep.out, htk]; rfl
            clear htk hop yo yo1 yo2 fz kg y5
            go_upto_region 34 with fail
            go_quiet (fail)
            go_wp2
            have h := fun kk => HON.out s1 _ e1.out (L1.only ok (Only.drewN [] wd kk))
            apply h
          | true =>
            by_cases hoN : o n = cx.N
            · have hsop : s1.op n = true := by rw [← hop, hoN]; simp
              have e1 : Hid (replS m cx.tlo cx.thi x v s = .inl s1) := by rw [hrep.out, htk, hsop]; rfl
              rw [hoN] at yo
              clear htk hop yo1 yo2 fz kg hsop hoN
              go_upto_region 34 with fail
              go_quiet (fail)
              go_wp2
              have h := fun kk => HON.out s1 _ e1.out (L1.only ok (Only.drewN [] wd kk))
              apply h
            · have hsop : s1.op n = false := by rw [← hop]; simpa using hoN
              have e1 : Hid (replS m cx.tlo cx.thi x v s = .inl (hubS m x n { s1 with op := fun j => if j = n then true else s1.op j } (m.un n))) := by rw [hrep.out, htk, hsop]; rfl
              have hoB : (o n == cx.N) = false := by simpa using hoN
              clear htk hop hsop
              go_upto_region 34 with fail
              go_quiet (fail)
              have hneq : (o n != cx.N) = true := by rw [bne, hoB]; rfl
              rw [hneq]
              clear hneq hoN hoB
              have Oy := Only.drewN [] wd nq
              have Ly := L1.only ok Oy
              have Ry := R1.keep Oy (by simp)
              have ky := kg.keep Oy (by simp)
              have z5 := Oy.cell (by simp) y5
              have zo := Oy.cell (by simp) yo
              have zo1 := ky.cell (i := n * 3 + 1) (by omega)
              have zo2 := ky.cell (i := n * 3 + 2) (by omega)
              have fzy := ky.frozen
              clear L1 R1 kg y5 yo yo1 yo2 fz y21 ixh Oy
              generalize wd.drewN nq = wy at *
              obtain ⟨w3, hw3⟩ : ∃ w3, w3 = ((wy.setCell ⟨cx.hb, n * 3, none⟩ (.int .i64 cx.N)).setCell ⟨cx.hb, n * 3 + 1, none⟩ (.int .i64 (s.dep x + 1))).setCell ⟨cx.hb, n * 3 + 2, none⟩ (.int .i64 0) := ⟨_, rfl⟩
              obtain ⟨s2, hs2⟩ : ∃ s2, s2 = { s1 with op := fun j => if j = n then true else s1.op j } := ⟨_, rfl⟩
              have hne : bx ≠ cx.hb := by have := ok.hi.2.2.2.2.2.2; omega
              have L3 : LS m cx s2 w3 := by rw [hs2, hw3]; exact Ly.open ok hnn _ _
              have R3 : Row w3 bx 77 2 (p32 pv (v : Int)) := by rw [hw3]; exact ((Ry.other cx.hb _ hne _).other cx.hb _ hne _).other cx.hb _ hne _
              rw [← hs2] at e1
              have hx2 : s2.rc x = true := by
                rw [hs2]
                show s1.rc x = true
                rw [HS1.out]
                by_cases h : s.rc v = true
                · rw [if_pos h]; exact hxr
                · rw [if_neg h]; exact (Keeps.reach v hxr (by simpa using h)).1
              have HW3 : Hid (w3 = _) := hw3
              clear hw3 hs2 Ly Ry ky
              go_upto_region 36 with fail
              rw [← HW3.out]
              clear z5 zo zo1 zo2 fzy HW3 HS1 hrep HH
              obtain ⟨b8, o8, e8, x8, y9⟩ : ∃ b8 o8, m.a8 = some ⟨b8, o8, none⟩ ∧ w3.cell? ⟨b8, o8 + n, none⟩ = some (.slice (m.ua n) (m.un n) (m.uc n)) ∧ w3.cell? ⟨cx.mb, 9, none⟩ = some (.slice m.a8 m.n8 m.c8) := by
                obtain ⟨q, d, i, o, S, hq, R, F, hg, hap, hb, hB, hs⟩ := L3
                obtain ⟨b8, o8, e8, _, k8⟩ := (HL.out.keep hB).h8 (by rw [HWF.out.e8]; omega)
                exact ⟨b8, o8, e8, k8 n (by rw [HWF.out.e8]; omega), S.rm.cell (i := 9) (by omega)⟩
              have ix8 := run_atN (P := Try.prog) 35 34 m.a8 m.n8 m.c8 b8 o8 .i32 n Try.underlying35 Try.size34 e8 (by rw [HWF.out.e8]; omega)
              have hun : m.un n ≤ 262144 := by
                have := HSm.out.su
                rw [HWF.out.e8] at this
                have := un_le_sum m hnn
                omega
              have L3' : LS m cx (hubS m x n s2 0) w3 := L3
              clear e8 L3
              go_wp2
              go_loopw [247] (fun t wr => ∃ k : Nat, k ≤ m.un n ∧ t = .int .i64 k ∧ LS m cx (hubS m x n s2 k) wr ∧ Row wr bx 77 2 (p32 pv (v : Int))) (fun t _ => m.un n - (intOf t).toNat)
              case atStart => exact ⟨0, by omega, rfl, L3', R3⟩
              case round =>
                clear L3' R3 x8 y9 ix8
                obtain ⟨k, hk, rfl, Lk, Rk⟩ := hrel
                by_cases hkl : k < m.un n
                · have hU := HWF.out.uu n hnn k hkl
                  obtain ⟨u, hu⟩ : ∃ u : Nat, m.uf n k = (u : Int) := ⟨(m.uf n k).toNat, by omega⟩
                  have hun1 : u < m.n1 := by omega
                  have hut : (m.uf n k).toNat = u := by omega
                  have hki : (k : Int) < (m.un n : Int) := by omega
                  obtain ⟨b8, o8, e8, d8, rm8, hL8⟩ : ∃ b8 o8, m.ua n = some ⟨b8, o8, none⟩ ∧ wr.cell? ⟨b8, o8 + k, none⟩ = some (.int .i32 (u : Int)) ∧ Row wr cx.mb 73 22 (mcell m cx.sb cx.hb cx.giv) ∧ Laid wr cx.B0 m := by
                    obtain ⟨q, d, i, o, S, hq, R, F, hg, hap, hb, hB, hs⟩ := Lk
                    have hLk := HL.out.keep hB
                    obtain ⟨b8, o8, e8, _, k8⟩ := hLk.hu n (by rw [HWF.out.e8]; omega) (by omega)
                    exact ⟨b8, o8, e8, by rw [k8 k hkl, hu], S.rm, hLk⟩
                  have i8 := run_atN (P := Try.prog) 34 21 (m.ua n) (m.un n) (m.uc n) b8 o8 .i64 k Try.underlying34 Try.size21 e8 hkl
                  have c57 := canGive57 m cx.mb cx.sb cx.hb cx.giv u cx.B0 wr rm8 hL8 HWF.out hun1
                  clear hu hU e8 rm8 hL8
                  go_wp2_with fail
                  refine c57.mono ?_
                  rintro e w4 ⟨rfl, O4⟩
                  have L4 := Lk.only ok O4
                  have R4 := Rk.keep O4 (by simp)
                  clear i8 d8 c57 Lk Rk O4
                  cases hgv : give m u with
                  | false =>
                    have eg : Hid (hubS m x n s2 (k + 1) = hubS m x n s2 k) := by
                      have h : hubS m x n s2 (k + 1) = hubS m x n s2 k := by simp only [hubS, hut, hgv, Bool.false_and, Bool.false_eq_true, if_false]
                      exact h
                    clear hgv hut
                    go_wp2
                    go_roundw
                    case rel => (first | exact ⟨k + 1, by omega, by go_num, eg.out ▸ L4, R4⟩ | ((repeat apply Exists.intro); exact ⟨⟨k + 1, by omega, by go_num, eg.out ▸ L4, R4⟩, rfl⟩))
                    case measure => simp [intOf]; omega
                  | true =>
                    obtain ⟨i, hrc, r60⟩ : ∃ i : Nat → Int, rchd cx.N i u = (hubS m x n s2 k).rc u ∧ Calls Try.prog 60 #[.pointer (some ⟨cx.sb, 0, none⟩), .int .i64 (u : Int)] w4 fun e w' => RetV (rchd cx.N i u) w4 e w' := by
                      obtain ⟨q, d, i, o, S, hq, R, F, hg, hap, hb, hB, hs⟩ := L4
                      exact ⟨i, R.rc u hun1, reached60 m cx.mb cx.sb cx.fb cx.vb cx.db cx.ib cx.hb q cx.giv cx.N d i o u w4 S hun1⟩
                    rw [hrc] at r60
                    clear hrc
                    have HGV : Hid (give m u = true) := hgv
                    have HUT : Hid ((m.uf n k).toNat = u) := hut
                    clear hgv hut
                    go_wp2_with fail
                    refine r60.mono ?_
                    rintro e w5 ⟨rfl, O5⟩
                    have L5 := L4.only ok O5
                    have R5 := R4.keep O5 (by simp)
                    clear r60 L4 R4 O5
                    cases hrv : (hubS m x n s2 k).rc u with
                    | true =>
                      have eg : Hid (hubS m x n s2 (k + 1) = hubS m x n s2 k) := by
                        have h : hubS m x n s2 (k + 1) = hubS m x n s2 k := by simp only [hubS, HUT.out, HGV.out, hrv, Bool.not_true, Bool.and_false, Bool.false_eq_true, if_false]
                        exact h
                      clear hrv
                      go_wp2
                      go_roundw
                      case rel => (first | exact ⟨k + 1, by omega, by go_num, eg.out ▸ L5, R5⟩ | ((repeat apply Exists.intro); exact ⟨⟨k + 1, by omega, by go_num, eg.out ▸ L5, R5⟩, rfl⟩))
                      case measure => simp [intOf]; omega
                    | false =>
                      have eg : Hid (hubS m x n s2 (k + 1) = (hubS m x n s2 k).reach x u) := by
                        have h : hubS m x n s2 (k + 1) = (hubS m x n s2 k).reach x u := by simp only [hubS, HUT.out, HGV.out, hrv, Bool.not_false, Bool.and_true, if_true]
                        exact h
                      have y0 : w5.cell? ⟨bx, 0, none⟩ = some (.int .i32 pv) := R5.cell (i := 0) (by omega)
                      have y1 : w5.cell? ⟨bx, 1, none⟩ = some (.int .i32 (v : Int)) := R5.cell (i := 1) (by omega)
                      have st := reachLS (pv := pv) (tv := (v : Int)) ok HSm.out HWF.out.e8 L5 hx (Keeps.hub hx2 k).1 hun1 hrv
                      clear hrv
                      go_wp2_with fail
                      refine st.mono ?_
                      rintro e w6 ⟨rfl, L6, hrow⟩
                      have R6 := hrow bx 2 _ hbb R5
                      clear st hrow L5 R5 y0 y1
                      go_wp2
                      go_roundw
                      case rel => (first | exact ⟨k + 1, by omega, by go_num, eg.out ▸ L6, R6⟩ | ((repeat apply Exists.intro); exact ⟨⟨k + 1, by omega, by go_num, eg.out ▸ L6, R6⟩, rfl⟩))
                      case measure => simp [intOf]; omega
                · obtain rfl : k = m.un n := by omega
                  go_wp2
                  have h := HON.out _ _ e1.out Lk
                  apply h
end Go.Proofs.Qxb6602564a
