/-
  layerByLevels: one replica.
-/
import Derived.Test.Qxb6602564aLvS
import Derived.Test.Qxb6602564aLvP
import Derived.Test.Qxb6602564aLyRepl
namespace Go.Proofs.Qxb6602564a
open Go.RowKit
set_option linter.unusedVariables false
structure Ck where
  (bm db B0 : Nat)
  w0 : World
structure Ck.ok (c : Ck) : Prop where
  l1 : c.B0 ≤ c.bm
  l2 : c.B0 ≤ c.db
/-- The levels in memory. -/
def DS (m : M) (c : Ck) (d : Nat → Int) (w : World) : Prop := Row w c.bm 37 12 (acell m) ∧ Row w c.db 3 m.n1 (nums d) ∧ Below c.B0 c.w0 w ∧ c.B0 ≤ w.heap.size
theorem DS.only {m : M} {c : Ck} {d : Nat → Int} {w w' : World} (h : DS m c d w) (O : Only [] w w') : DS m c d w' := by
  obtain ⟨h1, h2, h3, h4⟩ := h
  have := O.size
  exact ⟨h1.keep O (by simp), h2.keep O (by simp), h3.trans (O.below h4 (by simp)), by omega⟩
theorem DS.set {m : M} {c : Ck} (ok : c.ok) {d : Nat → Int} {w : World} (h : DS m c d w) (u : Nat) (z : Int) : DS m c (setD d u z) (w.setCell ⟨c.db, u, none⟩ (.int .i64 z)) := by
  obtain ⟨h1, h2, h3, h4⟩ := h
  have O : Only [c.db] w (w.setCell ⟨c.db, u, none⟩ (.int .i64 z)) := (Only.refl _ _).set c.db u _ (.inl (by simp))
  have := O.size
  refine ⟨h1.other c.db _ (h1.ne h2 (by decide)) _, (h2.set u _).ext (fun j hj => ?_), h3.trans (O.below h4 (by simp; exact ok.l2)), by omega⟩
  by_cases e : j = u
  · subst e; rw [upd_at]; simp [nums, setD]
  · rw [upd_ne _ _ e]; simp [nums, setD, e]
set_option maxRecDepth 1000000 in
set_option maxHeartbeats 8000000 in
theorem replR (m : M) (c : Ck) (ok : c.ok) (hL : Laid c.w0 c.B0 m) (hW : WF m) (hS : Small m) (tlo thi : Int) (d : Nat → Int) (L x p jj v : Nat) (Q : Exit → Act → World → Prop) (wr : World)
    (D : DS m c d wr) (hLv : L ≤ 262144) (hx : x < m.n1) (hv : v < m.n1) (hjn : jj < m.n6) (hf6 : m.f6 jj = (v : Int)) (hp : p ≤ 262144) (hlt : (jj : Int) < ((p : Int) + 1) * m.k) (hb1 : 0 ≤ ((p : Int) + 1) * m.k) (hb2 : ((p : Int) + 1) * m.k ≤ 262144)
    (c0 c1 c2 c6 c7 c8 c9 c10 c11 c13 c14 c15 c16 c17 c19 c21 c24 c25 c26 c27 c28 c29 c30 c31 c32 c33 c34 c35 c36 c37 c38 c39 c40 c41 c42 c43 c44 c45 c46 c47 c48 c49 c50 c51 c52 c53 c54 c55 c56 c57 c58 c59 c60 c61 c62 c63 c64 c65 c66 c67 c68 c69 c70 c71 c72 c73 c74 c75 c76 c77 c78 c79 c80 c81 c82 c83 c84 c85 c86 c87 c88 c89 c90 c91 c92 c93 c94 c95 c96 c97 c98 c99 c100 c101 c102 c103 c104 c105 c106 c107 c108 c109 c110 c111 c112 c113 c114 c115 c116 c117 c118 c119 c120 c121 c122 c123 c124 c125 c126 c127 c128 c129 c130 c131 c132 c133 c134 c135 c136 c137 c138 c139 c140 c141 c142 c143 c144 c145 c146 c147 c148 c149 c150 c151 c152 c153 c154 c155 c156 c157 c158 c159 c160 c161 c162 c163 c164 c165 c166 c167 c168 c169 c170 c171 c172 c173 c174 c175 c176 c177 c178 c179 c180 c181 c182 c183 c184 c185 c186 c187 c188 c189 c190 c191 c192 c193 c194 c195 c196 c197 c198 c199 c200 c201 c202 c203 c204 c205 c206 c207 c208 c209 c210 c211 c212 c213 c214 c215 c216 c217 c218 c219 c220 c221 c222 c223 c224 c225 : Value)
    (hon : ∀ d' w', replD m tlo thi L x v d = some d' → DS m c d' w' → ∀ u24 u25 u26 u27 u28 u138 u139 u140 u141 u142 u143 u144 u145 u146 u147 u148 u149 u150 u151 u152 u153 u154 u155 u156 u157 u158 u159 u160 u161 u162 u163 u164 u165 u166 u167 u168 u169 u170 u171 u172 u173 u174 u175 u176 u177 u178 u179 u180 u181 u182 u183 u184 u185 u186 u187 u188 u189 u190 u191 u192 u193 u194 u195 u196 u197 u198 u199 u200 u201 u202 u203 u204 u205 u206 u207 u208 u209 u210 u211 u212 u213 u214 u215 u216 u217 u218 u219 u220 u221 u222 u223 : Value, Q .normal ⟨#[c0, c1, c2, .int .i64 tlo, .int .i64 thi, .pointer (some ⟨c.bm, 0, none⟩), c6, c7, c8, c9, c10, c11, .slice (some ⟨c.db, 0, none⟩) m.n1 m.n1, c13, c14, c15, c16, c17, .int .i64 (L : Int), c19, .int .i64 (x : Int), c21, .int .i64 (p : Int), .int .i64 ((jj : Int) + 1), u24, u25, u26, u27, u28, c29, c30, c31, c32, c33, c34, c35, c36, c37, c38, c39, c40, c41, c42, c43, c44, c45, c46, c47, c48, c49, c50, c51, c52, c53, c54, c55, c56, c57, c58, c59, c60, c61, c62, c63, c64, c65, c66, c67, c68, c69, c70, c71, c72, c73, c74, c75, c76, c77, c78, c79, c80, c81, c82, c83, c84, c85, c86, c87, c88, c89, c90, c91, c92, c93, c94, c95, c96, c97, c98, c99, c100, c101, c102, c103, c104, c105, c106, c107, c108, c109, c110, c111, c112, c113, c114, c115, c116, c117, c118, c119, c120, c121, c122, c123, c124, c125, c126, c127, c128, c129, c130, c131, c132, c133, c134, c135, c136, c137, u138, u139, u140, u141, u142, u143, u144, u145, u146, u147, u148, u149, u150, u151, u152, u153, u154, u155, u156, u157, u158, u159, u160, u161, u162, u163, u164, u165, u166, u167, u168, u169, u170, u171, u172, u173, u174, u175, u176, u177, u178, u179, u180, u181, u182, u183, u184, u185, u186, u187, u188, u189, u190, u191, u192, u193, u194, u195, u196, u197, u198, u199, u200, u201, u202, u203, u204, u205, u206, u207, u208, u209, u210, u211, u212, u213, u214, u215, u216, u217, u218, u219, u220, u221, u222, u223, c224, c225], []⟩ w')
    (hhit : ∀ d' w', replD m tlo thi L x v d = none → DS m c d' w' → ∀ u24 u25 u26 u27 u28 u138 u139 u140 u141 u142 u143 u144 u145 u146 u147 u148 u149 u150 u151 u152 u153 u154 u155 u156 u157 u158 u159 u160 u161 u162 u163 u164 u165 u166 u167 u168 u169 u170 u171 u172 u173 u174 u175 u176 u177 u178 u179 u180 u181 u182 u183 u184 u185 u186 u187 u188 u189 u190 u191 u192 u193 u194 u195 u196 u197 u198 u199 u200 u201 u202 u203 u204 u205 u206 u207 u208 u209 u210 u211 u212 u213 u214 u215 u216 u217 u218 u219 u220 u221 u222 u223 : Value, Q .ret ⟨#[c0, c1, c2, .int .i64 tlo, .int .i64 thi, .pointer (some ⟨c.bm, 0, none⟩), c6, c7, c8, c9, .int .i64 ((L : Int) + 1), c11, .slice (some ⟨c.db, 0, none⟩) m.n1 m.n1, c13, c14, c15, c16, c17, .int .i64 (L : Int), c19, .int .i64 (x : Int), c21, .int .i64 (p : Int), .int .i64 (jj : Int), u24, u25, u26, u27, u28, c29, c30, c31, c32, c33, c34, c35, c36, c37, c38, c39, c40, c41, c42, c43, c44, c45, c46, c47, c48, c49, c50, c51, c52, c53, c54, c55, c56, c57, c58, c59, c60, c61, c62, c63, c64, c65, c66, c67, c68, c69, c70, c71, c72, c73, c74, c75, c76, c77, c78, c79, c80, c81, c82, c83, c84, c85, c86, c87, c88, c89, c90, c91, c92, c93, c94, c95, c96, c97, c98, c99, c100, c101, c102, c103, c104, c105, c106, c107, c108, c109, c110, c111, c112, c113, c114, c115, c116, c117, c118, c119, c120, c121, c122, c123, c124, c125, c126, c127, c128, c129, c130, c131, c132, c133, c134, c135, c136, c137, u138, u139, u140, u141, u142, u143, u144, u145, u146, u147, u148, u149, u150, u151, u152, u153, u154, u155, u156, u157, u158, u159, u160, u161, u162, u163, u164, u165, u166, u167, u168, u169, u170, u171, u172, u173, u174, u175, u176, u177, u178, u179, u180, u181, u182, u183, u184, u185, u186, u187, u188, u189, u190, u191, u192, u193, u194, u195, u196, u197, u198, u199, u200, u201, u202, u203, u204, u205, u206, u207, u208, u209, u210, u211, u212, u213, u214, u215, u216, u217, u218, u219, u220, u221, u222, u223, c224, c225], []⟩ w') :
    Code.wp Try.prog (unloop ((Try.f36.body.bind (findBody 12)).getD .skip)) Q ⟨#[c0, c1, c2, .int .i64 tlo, .int .i64 thi, .pointer (some ⟨c.bm, 0, none⟩), c6, c7, c8, c9, c10, c11, .slice (some ⟨c.db, 0, none⟩) m.n1 m.n1, c13, c14, c15, c16, c17, .int .i64 (L : Int), c19, .int .i64 (x : Int), c21, .int .i64 (p : Int), .int .i64 (jj : Int), c24, c25, c26, c27, c28, c29, c30, c31, c32, c33, c34, c35, c36, c37, c38, c39, c40, c41, c42, c43, c44, c45, c46, c47, c48, c49, c50, c51, c52, c53, c54, c55, c56, c57, c58, c59, c60, c61, c62, c63, c64, c65, c66, c67, c68, c69, c70, c71, c72, c73, c74, c75, c76, c77, c78, c79, c80, c81, c82, c83, c84, c85, c86, c87, c88, c89, c90, c91, c92, c93, c94, c95, c96, c97, c98, c99, c100, c101, c102, c103, c104, c105, c106, c107, c108, c109, c110, c111, c112, c113, c114, c115, c116, c117, c118, c119, c120, c121, c122, c123, c124, c125, c126, c127, c128, c129, c130, c131, c132, c133, c134, c135, c136, c137, c138, c139, c140, c141, c142, c143, c144, c145, c146, c147, c148, c149, c150, c151, c152, c153, c154, c155, c156, c157, c158, c159, c160, c161, c162, c163, c164, c165, c166, c167, c168, c169, c170, c171, c172, c173, c174, c175, c176, c177, c178, c179, c180, c181, c182, c183, c184, c185, c186, c187, c188, c189, c190, c191, c192, c193, c194, c195, c196, c197, c198, c199, c200, c201, c202, c203, c204, c205, c206, c207, c208, c209, c210, c211, c212, c213, c214, c215, c216, c217, c218, c219, c220, c221, c222, c223, c224, c225], []⟩ wr := by
  have hn1 := hS.s1
  have hn9 := hS.s9
  have hn6 := hS.s6
  have rm := D.1
  have y0 : wr.cell? ⟨c.bm, 0, none⟩ = some (.slice m.a0 m.n0 m.c0) := rm.cell (i := 0) (by omega)
  have y1 : wr.cell? ⟨c.bm, 1, none⟩ = some (.slice m.a1 m.n1 m.c1) := rm.cell (i := 1) (by omega)
  have y2 : wr.cell? ⟨c.bm, 2, none⟩ = some (.slice m.a2 m.n2 m.c2) := rm.cell (i := 2) (by omega)
  have y3 : wr.cell? ⟨c.bm, 3, none⟩ = some (.slice m.a3 m.n3 m.c3) := rm.cell (i := 3) (by omega)
  have y4 : wr.cell? ⟨c.bm, 4, none⟩ = some (.slice m.a4 m.n4 m.c4) := rm.cell (i := 4) (by omega)
  have y5 : wr.cell? ⟨c.bm, 5, none⟩ = some (.slice m.a5 m.n5 m.c5) := rm.cell (i := 5) (by omega)
  have y6 : wr.cell? ⟨c.bm, 6, none⟩ = some (.slice m.a6 m.n6 m.c6) := rm.cell (i := 6) (by omega)
  have y7 : wr.cell? ⟨c.bm, 7, none⟩ = some (.int .i64 m.k) := rm.cell (i := 7) (by omega)
  have y8 : wr.cell? ⟨c.bm, 8, none⟩ = some (.slice m.a8 m.n8 m.c8) := rm.cell (i := 8) (by omega)
  have y9 : wr.cell? ⟨c.bm, 9, none⟩ = some (.slice m.a9 m.n9 m.c9) := rm.cell (i := 9) (by omega)
  have y10 : wr.cell? ⟨c.bm, 10, none⟩ = some (.slice m.a10 m.n10 m.c10) := rm.cell (i := 10) (by omega)
  have y11 : wr.cell? ⟨c.bm, 11, none⟩ = some (.slice m.a11 m.n11 m.c11) := rm.cell (i := 11) (by omega)
  have hLr : Laid wr c.B0 m := hL.keep D.2.2.1
  obtain ⟨b6, o6, e6, _, k6⟩ := hLr.h6 (by omega)
  have ix6 := run_atN (P := Try.prog) 34 21 m.a6 m.n6 m.c6 b6 o6 .i64 jj Try.underlying34 Try.size21 e6 hjn
  have d6 := k6 jj hjn
  rw [hf6] at d6
  obtain ⟨n, hn⟩ : ∃ n : Nat, m.f1 v = (n : Int) := ⟨(m.f1 v).toNat, by have := hW.un v hv; omega⟩
  have hnn : n < m.n9 := by have := hW.un v hv; omega
  have hnt : (m.f1 v).toNat = n := by omega
  obtain ⟨b1, o1, e1, _, k1⟩ := hLr.h1 (by omega)
  have ix1 := run_atN (P := Try.prog) 34 21 m.a1 m.n1 m.c1 b1 o1 .i64 v Try.underlying34 Try.size21 e1 hv
  have d1 := k1 v hv
  rw [hn] at d1
  have HL : Hid (Laid c.w0 c.B0 m) := hL
  have HWF : Hid (WF m) := hW
  have HSm : Hid (Small m) := hS
  have HON : Hid _ := hon
  have HHIT : Hid _ := hhit
  have HNT : Hid ((m.f1 v).toNat = n) := hnt
  have HD : Hid (DS m c d wr) := D
  have c54 := mayTake54 m v c.B0 wr D.2.2.2 hLr hW hv
  clear hL hW hS hon hhit e6 k6 e1 k1 hn hnt hf6 D hLr rm
  conv => arg 2; whnf
  by_cases hvx : v = x
  · have e1 : Hid (replD m tlo thi L x v d = some d) := by
      have h : replD m tlo thi L x v d = some d := by simp only [replD, if_pos hvx]
      exact h
    have hvi : ((v : Int) == (x : Int)) = true := by simp; omega
    clear c54
    go_wp2
    have h := HON.out d _ e1.out HD.out
    apply h
  · have hvi : ((v : Int) == (x : Int)) = false := by simp; omega
    have HVX : Hid (¬ v = x) := hvx
    clear hvx
    go_wp2_with fail
    refine c54.mono ?_
    rintro e w2 ⟨rfl, O2⟩
    have D2 := HD.out.only O2
    clear c54 HD y0 y1 y2 y3 y4 y5 y6 y7 y8 y9 y10 y11 ix6 d6 ix1 d1 O2
    cases htk : take m v with
    | false =>
      have er : Hid (replD m tlo thi L x v d = some (markD L d v)) := by
        have h : replD m tlo thi L x v d = some (markD L d v) := by simp only [replD, if_neg HVX.out, htk, Bool.false_eq_true, if_false]
        exact h
      have zv : w2.cell? ⟨c.db, v, none⟩ = some (.int .i64 (d v)) := D2.2.1.cell hv
      have fz := D2.2.1.frozen
      have hvn : (v : Int) < (m.n1 : Int) := by omega
      by_cases hd : d v < 0
      · have em : Hid (markD L d v = setD d v ((L : Int) + 1)) := by
          have h : markD L d v = setD d v ((L : Int) + 1) := by simp only [markD, if_pos hd]
          exact h
        have D3 := D2.set ok v ((L : Int) + 1)
        clear D2 htk
        go_wp2
        have h := HON.out _ _ (er.out.trans (by rw [em.out])) D3
        apply h
      · have em : Hid (markD L d v = d) := by
          have h : markD L d v = d := by simp only [markD, if_neg hd]
          exact h
        clear htk
        go_wp2
        have h := HON.out _ _ (er.out.trans (by rw [em.out])) D2
        apply h
    | true =>
      have hLr : Laid w2 c.B0 m := HL.out.keep D2.2.2.1
      obtain ⟨b9, o9, e9, _, k9⟩ := hLr.h9 (by omega)
      have ix9 := run_atN (P := Try.prog) 26 3 m.a9 m.n9 m.c9 b9 o9 .i64 n Try.underlying26 Try.size3 e9 hnn
      have d9 := k9 n hnn
      have y9 : w2.cell? ⟨c.bm, 9, none⟩ = some (.slice m.a9 m.n9 m.c9) := D2.1.cell (i := 9) (by omega)
      clear e9 k9 hLr
      cases hh : hasP tlo thi (m.f9 n) with
      | true =>
        have er : Hid (replD m tlo thi L x v d = none) := by
          have h : replD m tlo thi L x v d = none := by simp only [replD, if_neg HVX.out, htk, HNT.out, hh, if_true]
          exact h
        have h12 : tlo ≤ m.f9 n ∧ m.f9 n ≤ thi := by simpa [hasP] using hh
        obtain ⟨h1, h2⟩ := h12
        clear hh htk
        go_wp2
        have h := HHIT.out _ _ er.out D2
        apply h
      | false =>
        have er : Hid (replD m tlo thi L x v d = some (markD L (hubD m n L d (m.un n)) v)) := by
          have h : replD m tlo thi L x v d = some (markD L (hubD m n L d (m.un n)) v) := by simp only [replD, if_neg HVX.out, htk, HNT.out, hh, if_true, Bool.false_eq_true, if_false]
          exact h
        have h12 : (decide (tlo ≤ m.f9 n) && decide (m.f9 n ≤ thi)) = false := hh
        clear hh htk
        have hun : m.un n ≤ 262144 := by
          have := HSm.out.su
          rw [HWF.out.e8] at this
          have := un_le_sum m hnn
          omega
        have D3 : DS m c (hubD m n L d 0) w2 := D2
        have hcase : (¬ tlo ≤ m.f9 n) ∨ (tlo ≤ m.f9 n ∧ ¬ m.f9 n ≤ thi) := by
          by_cases h1 : tlo ≤ m.f9 n
          · right; refine ⟨h1, fun h2 => ?_⟩; simp [h1, h2] at h12
          · left; exact h1
        clear h12 D2
        go_upto_region 40 with fail
        go_cut [177] from 170 to 177 (fun t wx => t = .bool false ∧ wx = w2)
        case first =>
          rcases hcase with h1 | ⟨h1, h2⟩
          · go_wp2
            go_meet
            case rel => first | exact ⟨rfl, rfl⟩ | exact ⟨by simp [h2], rfl⟩
          · go_wp2
            go_meet
            case rel => first | exact ⟨rfl, rfl⟩ | exact ⟨by simp [h2], rfl⟩
        case rest =>
          obtain ⟨rfl, hwc⟩ := hcut
          subst hwc
          clear hcase ix9 d9 y9
          go_wp2
          go_loopw [27] (fun t wr => ∃ k : Nat, k ≤ m.un n ∧ t = .int .i64 k ∧ DS m c (hubD m n L d k) wr) (fun t _ => m.un n - (intOf t).toNat)
          case atStart => exact ⟨0, by omega, rfl, D3⟩
          case round =>
            clear D3
            obtain ⟨k, hk, rfl, Dk⟩ := hrel
            have hLr : Laid wr c.B0 m := HL.out.keep Dk.2.2.1
            obtain ⟨b8, o8, e8, _, k8⟩ := hLr.h8 (by rw [HWF.out.e8]; omega)
            have ix8 := run_atN (P := Try.prog) 35 34 m.a8 m.n8 m.c8 b8 o8 .i64 n Try.underlying35 Try.size34 e8 (by rw [HWF.out.e8]; omega)
            have d8 := k8 n (by rw [HWF.out.e8]; omega)
            have y0 : wr.cell? ⟨c.bm, 0, none⟩ = some (.slice m.a0 m.n0 m.c0) := Dk.1.cell (i := 0) (by omega)
            have y1 : wr.cell? ⟨c.bm, 1, none⟩ = some (.slice m.a1 m.n1 m.c1) := Dk.1.cell (i := 1) (by omega)
            have y2 : wr.cell? ⟨c.bm, 2, none⟩ = some (.slice m.a2 m.n2 m.c2) := Dk.1.cell (i := 2) (by omega)
            have y3 : wr.cell? ⟨c.bm, 3, none⟩ = some (.slice m.a3 m.n3 m.c3) := Dk.1.cell (i := 3) (by omega)
            have y4 : wr.cell? ⟨c.bm, 4, none⟩ = some (.slice m.a4 m.n4 m.c4) := Dk.1.cell (i := 4) (by omega)
            have y5 : wr.cell? ⟨c.bm, 5, none⟩ = some (.slice m.a5 m.n5 m.c5) := Dk.1.cell (i := 5) (by omega)
            have y6 : wr.cell? ⟨c.bm, 6, none⟩ = some (.slice m.a6 m.n6 m.c6) := Dk.1.cell (i := 6) (by omega)
            have y7 : wr.cell? ⟨c.bm, 7, none⟩ = some (.int .i64 m.k) := Dk.1.cell (i := 7) (by omega)
            have y8 : wr.cell? ⟨c.bm, 8, none⟩ = some (.slice m.a8 m.n8 m.c8) := Dk.1.cell (i := 8) (by omega)
            have y9 : wr.cell? ⟨c.bm, 9, none⟩ = some (.slice m.a9 m.n9 m.c9) := Dk.1.cell (i := 9) (by omega)
            have y10 : wr.cell? ⟨c.bm, 10, none⟩ = some (.slice m.a10 m.n10 m.c10) := Dk.1.cell (i := 10) (by omega)
            have y11 : wr.cell? ⟨c.bm, 11, none⟩ = some (.slice m.a11 m.n11 m.c11) := Dk.1.cell (i := 11) (by omega)
            clear e8 k8
            by_cases hkl : k < m.un n
            · have hU := HWF.out.uu n hnn k hkl
              obtain ⟨u, hu⟩ : ∃ u : Nat, m.uf n k = (u : Int) := ⟨(m.uf n k).toNat, by omega⟩
              have hun1 : u < m.n1 := by omega
              have hut : (m.uf n k).toNat = u := by omega
              have hki : (k : Int) < (m.un n : Int) := by omega
              obtain ⟨bu, ou, eu, _, ku⟩ := hLr.hu n (by rw [HWF.out.e8]; omega) (by omega)
              have ixu := run_atN (P := Try.prog) 34 21 (m.ua n) (m.un n) (m.uc n) bu ou .i64 k Try.underlying34 Try.size21 eu hkl
              have du : wr.cell? ⟨bu, ou + k, none⟩ = some (.int .i32 (u : Int)) := by rw [ku k hkl, hu]
              have c53 := mayGive53 m u c.B0 wr Dk.2.2.2 hLr HWF.out hun1
              have HUT : Hid ((m.uf n k).toNat = u) := hut
              clear hu hU eu ku hLr hut
              go_wp2_with fail
              refine c53.mono ?_
              rintro e w4 ⟨rfl, O4⟩
              have D4 := Dk.only O4
              clear c53 Dk O4 ix8 d8 ixu du y0 y1 y2 y3 y4 y5 y6 y7 y8 y9 y10 y11
              cases hgv : give m u with
              | false =>
                have eg : Hid (hubD m n L d (k + 1) = hubD m n L d k) := by
                  have h : hubD m n L d (k + 1) = hubD m n L d k := by simp only [hubD, HUT.out, hgv, Bool.false_and, Bool.false_eq_true, if_false]
                  exact h
                clear hgv
                go_wp2
                go_roundw
                case rel => (first | exact ⟨k + 1, by omega, by go_num, eg.out ▸ D4⟩ | ((repeat apply Exists.intro); exact ⟨⟨k + 1, by omega, by go_num, eg.out ▸ D4⟩, rfl⟩))
                case measure => simp [intOf]; omega
              | true =>
                obtain ⟨du, hdu⟩ : ∃ du, hubD m n L d k u = du := ⟨_, rfl⟩
                have zu : w4.cell? ⟨c.db, u, none⟩ = some (.int .i64 du) := by rw [← hdu]; exact D4.2.1.cell hun1
                have fz := D4.2.1.frozen
                have hui : (u : Int) < (m.n1 : Int) := by omega
                by_cases hd : du < 0
                · have eg : Hid (hubD m n L d (k + 1) = setD (hubD m n L d k) u ((L : Int) + 1)) := by
                    have h : hubD m n L d (k + 1) = setD (hubD m n L d k) u ((L : Int) + 1) := by simp only [hubD, HUT.out, hgv, hdu, Bool.true_and, decide_eq_true_eq, if_pos hd]
                    exact h
                  have D5 := D4.set ok u ((L : Int) + 1)
                  clear hgv D4 hdu
                  go_wp2
                  go_roundw
                  case rel => (first | exact ⟨k + 1, by omega, by go_num, eg.out ▸ D5⟩ | ((repeat apply Exists.intro); exact ⟨⟨k + 1, by omega, by go_num, eg.out ▸ D5⟩, rfl⟩))
                  case measure => simp [intOf]; omega
                · have eg : Hid (hubD m n L d (k + 1) = hubD m n L d k) := by
                    have h : hubD m n L d (k + 1) = hubD m n L d k := by simp only [hubD, HUT.out, hgv, hdu, Bool.true_and, decide_eq_true_eq, if_neg hd]
                    exact h
                  clear hgv hdu
                  go_wp2
                  go_roundw
                  case rel => (first | exact ⟨k + 1, by omega, by go_num, eg.out ▸ D4⟩ | ((repeat apply Exists.intro); exact ⟨⟨k + 1, by omega, by go_num, eg.out ▸ D4⟩, rfl⟩))
                  case measure => simp [intOf]; omega
            · obtain rfl : k = m.un n := by omega
              obtain ⟨dv, hdv⟩ : ∃ dv, hubD m n L d (m.un n) v = dv := ⟨_, rfl⟩
              have zv : wr.cell? ⟨c.db, v, none⟩ = some (.int .i64 dv) := by rw [← hdv]; exact Dk.2.1.cell hv
              have fz := Dk.2.1.frozen
              have hvn : (v : Int) < (m.n1 : Int) := by omega
              clear hLr
              by_cases hd : dv < 0
              · have em : Hid (markD L (hubD m n L d (m.un n)) v = setD (hubD m n L d (m.un n)) v ((L : Int) + 1)) := by
                  have h : markD L (hubD m n L d (m.un n)) v = setD (hubD m n L d (m.un n)) v ((L : Int) + 1) := by simp only [markD, hdv, if_pos hd]
                  exact h
                have D5 := Dk.set ok v ((L : Int) + 1)
                clear Dk hdv
                go_wp2
                have h := HON.out _ _ (er.out.trans (by rw [em.out])) D5
                apply h
              · have em : Hid (markD L (hubD m n L d (m.un n)) v = hubD m n L d (m.un n)) := by
                  have h : markD L (hubD m n L d (m.un n)) v = hubD m n L d (m.un n) := by simp only [markD, hdv, if_neg hd]
                  exact h
                clear hdv
                go_wp2
                have h := HON.out _ _ (er.out.trans (by rw [em.out])) Dk
                apply h
end Go.Proofs.Qxb6602564a
