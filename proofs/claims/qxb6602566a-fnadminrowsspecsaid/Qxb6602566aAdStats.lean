/-
  THE WALK OF broker.ZZStats: the reply, its topics and their channels, laid into rows of their own.
-/
import Derived.Test.Qxb6602566aAdAlign
import Derived.Deep.CutRange
import Derived.BigRegion
import Derived.StillTailTactics
namespace Go.Proofs.Qxb6602566a
open Go.RowKit
set_option linter.unusedVariables false
def z73 : Value := .agg #[.string ByteArray.empty, .slice none 0 0, .int .i64 0, .int .i64 0, .int .i64 0, .int .i64 0, .bool false]
def z76 : Value := .agg #[.string ByteArray.empty, .int .i64 0, .int .i64 0, .int .i64 0, .int .i64 0, .int .i64 0, .int .i64 0, .int .i64 0, .slice none 0 0, .bool false]
theorem Try.info73 : (Try.prog.info? 73).map (fun i => (i.zero, i.size, i.bytes)) = some (some z73, 7, 80) := by kernel_rfl
theorem Try.info76 : (Try.prog.info? 76).map (fun i => (i.zero, i.size, i.bytes)) = some (some z76, 10, 104) := by kernel_rfl
theorem run_make_any {P : Program} (t e : TypeId) (zv : Value) (size bytes n : Nat) (ht : P.underlying t = some (.slice e)) (hinfo : (P.info? e).map (fun i => (i.zero, i.size, i.bytes)) = some (some zv, size, bytes))
    (kl kc : IntKind) (hb : bytes * n ≤ 281474976710656) (h63 : n ≤ 9223372036854775807) (w : World) :
    (Instr.makeSlice t (.int kl (n : Int)) (.int kc (n : Int))).run P w = .ok (.slice (some ⟨w.heap.size, 0, none⟩) n n) (w.alloc (.cells (madeCells zv.cells (n * size)) e)) := by
  obtain ⟨i, hi, hz0, hz1, hz2⟩ := info_parts hinfo
  have h := run_make (P := P) w t e i zv ht hi hz0 kl kc n n (by omega) (by omega) (by rw [hz2, ← Int.natCast_mul]; omega) (by omega)
  rw [hz1] at h
  simpa using h

def zt3 (n : Nat) : Array Value := madeCells z73.cells (n * 7)
theorem zt3_size (n : Nat) : (zt3 n).size = n * 7 := by simp [zt3, madeCells]
def zt6 (n : Nat) : Array Value := madeCells z76.cells (n * 10)
theorem zt6_size (n : Nat) : (zt6 n).size = n * 10 := by simp [zt6, madeCells]
theorem Try.size76 : (Try.prog.info? 76).map (·.size) = some 10 := by kernel_rfl
theorem Try.size73 : (Try.prog.info? 73).map (·.size) = some 7 := by kernel_rfl
/-- The cells of topic i, its channels being the slice v. -/
def tcell (m : A) (v : Nat → Value) (i : Nat) : Nat → Value
  | 0 => .string (m.name i)
  | 1 => v i
  | 2 => .int .i64 (m.num i 0)
  | 3 => .int .i64 (m.num i 1)
  | 4 => .int .i64 (m.num i 2)
  | 5 => .int .i64 (m.num i 3)
  | _ => .bool (m.pau i)
/-- The cells of channel j of topic i. -/
def ccell (m : A) (i j : Nat) : Nat → Value
  | 0 => .string (m.cname i j)
  | 1 => .int .i64 (m.cnum i j 0)
  | 2 => .int .i64 (m.cnum i j 1)
  | 3 => .int .i64 (m.cnum i j 2)
  | 4 => .int .i64 (m.cnum i j 3)
  | 5 => .int .i64 (m.cnum i j 4)
  | 6 => .int .i64 (m.cnum i j 5)
  | 7 => .int .i64 (m.cnum i j 6)
  | 8 => .slice none 0 0
  | _ => .bool (m.cpau i j)


/-- The channels of the first k topics lie in rows of their own, behind block b. -/
def Chans (m : A) (w : World) (b : Nat) (v : Nat → Value) (k : Nat) : Prop :=
  ∀ i, i < k → ∃ ca, v i = .slice ca (m.m6 i) (m.m6 i) ∧ (0 < m.m6 i → ∃ c, ca = some ⟨c, 0, none⟩ ∧ b < c ∧ Row w c 76 (m.m6 i * 10) (fun q => ccell m i (q / 10) (q % 10)))
def TopicsTo (m : A) (v g : Nat → Value) (k : Nat) : Prop := ∀ q, q < k * 7 → g q = tcell m v (q / 7) (q % 7)
def scell (m : A) (tp : Value) : Nat → Value
  | 0 => .string m.ver
  | 1 => .string m.hea
  | 2 => .int .i64 m.st
  | _ => tp
structure AtT (m : A) (w wr : World) (s k : Nat) (v g : Nat → Value) : Prop where
  h : s = w.heap.size
  r0 : wr.heap[s]? = some (.cells #[.string { data := #[] }, .string { data := #[] }, .int .i64 0, .slice none 0 0] 35 (0, 0))
  r1 : Row wr (s + 1) 35 4 (scell m (.slice (some ⟨s + 1 + 1, 0, none⟩) m.n3 m.n3))
  r2 : Row wr (s + 1 + 1) 73 (m.n3 * 7) g
  tt : TopicsTo m v g k
  ch : Chans m wr (s + 1 + 1) v k
  ol : Only [] w wr

theorem newTopic (m : A) (k : Nat) (w : World) : ∃ w1, w1 = (w.alloc (.cells #[.string (m.name k), .slice none 0 0, .int .i64 (m.num k 0), .int .i64 (m.num k 1), .int .i64 (m.num k 2), .int .i64 (m.num k 3), .bool (m.pau k)] 73)).drew ∧ Row w1 w.heap.size 73 7 (tcell m (fun _ => .slice none 0 0) k) ∧ Only [] w w1 ∧ w1.heap.size = w.heap.size + 1 := by
  refine ⟨_, rfl, ((Row.made w _ 73).ext (fun i hi => ?_)).drew, (Only.alloc _ _ _).trans (Only.drew _ _), by simp [World.drew]⟩
  have hi : i < 7 := hi
  obtain rfl | rfl | rfl | rfl | rfl | rfl | rfl : i = 0 ∨ i = 1 ∨ i = 2 ∨ i = 3 ∨ i = 4 ∨ i = 5 ∨ i = 6 := by omega
  all_goals rfl
theorem sum6_le (m : A) {i k : Nat} (h : i < k) : m.m6 i ≤ sum6 m k := by
  induction k with
  | zero => omega
  | succ k ih =>
    show m.m6 i ≤ sum6 m k + m.m6 k
    by_cases e : i = k
    · subst e; omega
    · have := ih (by omega); omega
theorem Small.each {m : A} (h : Small m) {i : Nat} (hi : i < m.n6) : m.m6 i ≤ 65536 := Nat.le_trans (sum6_le m hi) h.su
/-- The cells o .. o + n - 1 of block b, stored one after the other. -/
def setN (w : World) (b o : Nat) (x : Nat → Value) : Nat → World
  | 0 => w
  | n + 1 => (setN w b o x n).setCell ⟨b, o + n, none⟩ (x n)
theorem Row.setN {w : World} {b : Nat} {T : TypeId} {N : Nat} {g : Nat → Value} (h : Row w b T N g) (o : Nat) (x : Nat → Value) (n : Nat) : Row (setN w b o x n) b T N (fun q => if o ≤ q ∧ q < o + n then x (q - o) else g q) := by
  induction n with
  | zero => exact h.ext (fun i _ => by rw [if_neg (by omega)])
  | succ n ih =>
    refine (ih.set (o + n) (x n)).ext (fun i _ => ?_)
    by_cases e : i = o + n
    · subst e; rw [upd_at, if_pos ⟨by omega, by omega⟩]; congr 1; omega
    · rw [upd_ne _ _ e]
      by_cases e2 : o ≤ i ∧ i < o + n
      · rw [if_pos e2, if_pos (by omega)]
      · rw [if_neg e2, if_neg (by omega)]
theorem Only.setN (w : World) (b o : Nat) (x : Nat → Value) (n : Nat) : Only [b] w (setN w b o x n) := by
  induction n with
  | zero => exact Only.refl _ _
  | succ n ih => exact ih.set b _ _ (.inl (by simp))
theorem newChans {m : A} {k : Nat} {w2 : World} {p : Nat} (r : Row w2 p 73 7 (tcell m (fun _ => .slice none 0 0) k)) : ∃ w3, w3 = (w2.alloc (.cells (zt6 (m.m6 k)) 76)).setCell ⟨p, 1, none⟩ (.slice (some ⟨w2.heap.size, 0, none⟩) (m.m6 k) (m.m6 k)) ∧
    Row w3 p 73 7 (tcell m (fun _ => .slice (some ⟨w2.heap.size, 0, none⟩) (m.m6 k) (m.m6 k)) k) ∧ (∃ g, Row w3 w2.heap.size 76 (m.m6 k * 10) g) ∧ Only [p] w2 w3 ∧ w3.heap.size = w2.heap.size + 1 := by
  have hp := r.lt
  refine ⟨_, rfl, ((r.alloc _).set 1 _).ext (fun i hi => ?_), ⟨(fun i => (zt6 (m.m6 k))[i]!), ?_⟩, (Only.alloc _ _ _).set p 1 _ (.inl (by simp)), by simp [World.setCell]⟩
  · obtain rfl | rfl | rfl | rfl | rfl | rfl | rfl : i = 0 ∨ i = 1 ∨ i = 2 ∨ i = 3 ∨ i = 4 ∨ i = 5 ∨ i = 6 := by omega
    all_goals rfl
  · have h := Row.made w2 (zt6 (m.m6 k)) 76
    rw [zt6_size] at h
    exact h.other p 1 (by omega) _
def ChansTo (m : A) (i : Nat) (g : Nat → Value) (j : Nat) : Prop := ∀ q, q < j * 10 → g q = ccell m i (q / 10) (q % 10)
structure AtC (m : A) (wr wj : World) (p c k j : Nat) (g : Nat → Value) : Prop where
  rc : Row wj c 76 (m.m6 k * 10) g
  tt : ChansTo m k g j
  rt : Row wj p 73 7 (tcell m (fun _ => .slice (some ⟨c, 0, none⟩) (m.m6 k) (m.m6 k)) k)
  ol : Only [] wr wj
/-- One topic more. -/
theorem AtT.next {m : A} {w wr wj w5 : World} {s k : Nat} {v g : Nat → Value} (h : AtT m w wr s k v g) (Oj : Only [] wr wj) (ca : Option Addr)
    (hc : 0 < m.m6 k → ∃ c, ca = some ⟨c, 0, none⟩ ∧ s + 1 + 1 < c ∧ Row wj c 76 (m.m6 k * 10) (fun q => ccell m k (q / 10) (q % 10)))
    (hw5 : w5 = setN wj (s + 1 + 1) (k * 7) (tcell m (fun _ => .slice ca (m.m6 k) (m.m6 k)) k) 7) (hk : k < m.n3) : ∃ v' g', AtT m w w5 s (k + 1) v' g' := by
  subst hw5
  obtain ⟨hs, r0, r1, r2, tt, ch, ol⟩ := h
  have hl0 := lt_of_block r0
  have hl1 := Oj.size
  have O5 := Only.setN wj (s + 1 + 1) (k * 7) (tcell m (fun _ => .slice ca (m.m6 k) (m.m6 k)) k) 7
  refine ⟨fun i => if i = k then .slice ca (m.m6 k) (m.m6 k) else v i, _, hs, (O5.block s (by omega) (by simp; omega)).trans ((Oj.block s hl0 (by simp)).trans r0), (r1.keep Oj (by simp)).keep O5 (by simp), (r2.keep Oj (by simp)).setN (k * 7) _ 7, fun q hq => ?_, fun i hi => ?_, (ol.trans Oj).trans' O5 (fun i hi => by simp at hi; omega)⟩
  · by_cases e : k * 7 ≤ q
    · rw [if_pos ⟨e, by omega⟩]
      have hr : q - k * 7 = q % 7 := by omega
      have hd : q / 7 = k := by omega
      rw [hr, hd]
      obtain h | h | h | h | h | h | h : q % 7 = 0 ∨ q % 7 = 1 ∨ q % 7 = 2 ∨ q % 7 = 3 ∨ q % 7 = 4 ∨ q % 7 = 5 ∨ q % 7 = 6 := by omega
      all_goals (rw [h]; simp [tcell])
    · rw [if_neg (by omega), tt q (by omega)]
      have hd : q / 7 ≠ k := by omega
      obtain h | h | h | h | h | h | h : q % 7 = 0 ∨ q % 7 = 1 ∨ q % 7 = 2 ∨ q % 7 = 3 ∨ q % 7 = 4 ∨ q % 7 = 5 ∨ q % 7 = 6 := by omega
      all_goals (rw [h]; simp [tcell, hd])
  · by_cases e : i = k
    · subst e
      refine ⟨ca, by simp, fun h0 => ?_⟩
      obtain ⟨c, e1, e2, e3⟩ := hc h0
      exact ⟨c, e1, e2, e3.keep O5 (by simp; omega)⟩
    · obtain ⟨cb, f1, f2⟩ := ch i (by omega)
      refine ⟨cb, by simp [e, f1], fun h0 => ?_⟩
      obtain ⟨c, e1, e2, e3⟩ := f2 h0
      exact ⟨c, e1, e2, (e3.keep Oj (by simp)).keep O5 (by simp; omega)⟩
theorem AtT.start (m : A) (w : World) : AtT m w (((w.alloc (.cells #[.string { data := #[] }, .string { data := #[] }, .int .i64 0, .slice none 0 0] 35)).alloc (.cells #[.string m.ver, .string m.hea, .int .i64 m.st, .slice (some ⟨w.heap.size + 1 + 1, 0, none⟩) m.n3 m.n3] 35)).alloc (.cells (zt3 m.n3) 73)) w.heap.size 0 (fun _ => .bool false) (fun i => (zt3 m.n3)[i]!) := by
  refine ⟨rfl, ?_, ?_, ?_, fun q hq => by omega, fun i hi => by omega, ((Only.alloc _ _ _).trans (Only.alloc _ _ _)).trans (Only.alloc _ _ _)⟩
  · rw [Below.heap_alloc _ _ _ (by simp; omega), Below.heap_alloc _ _ _ (by simp)]
    exact heap_alloc_new w _
  · have h := Row.made (w.alloc (.cells #[.string { data := #[] }, .string { data := #[] }, .int .i64 0, .slice none 0 0] 35)) #[.string m.ver, .string m.hea, .int .i64 m.st, .slice (some ⟨w.heap.size + 1 + 1, 0, none⟩) m.n3 m.n3] 35
    rw [World.size_alloc] at h
    refine (h.alloc _).ext (fun i hi => ?_)
    have hi : i < 4 := hi
    obtain rfl | rfl | rfl | rfl : i = 0 ∨ i = 1 ∨ i = 2 ∨ i = 3 := by omega
    all_goals rfl
  · have h := Row.made ((w.alloc (.cells #[.string { data := #[] }, .string { data := #[] }, .int .i64 0, .slice none 0 0] 35)).alloc (.cells #[.string m.ver, .string m.hea, .int .i64 m.st, .slice (some ⟨w.heap.size + 1 + 1, 0, none⟩) m.n3 m.n3] 35)) (zt3 m.n3) 73
    rw [World.size_alloc, World.size_alloc, zt3_size] at h
    exact h
theorem last35 (m : A) {wr : World} {s : Nat} {a b c d : Value} (tp : Value) (r0 : wr.heap[s]? = some (.cells #[a, b, c, d] 35 (0, 0))) : (setN wr s 0 (scell m tp) 4).heap[s]? = some (.cells #[.string m.ver, .string m.hea, .int .i64 m.st, tp] 35 (0, 0)) := by
  have h0 := heap_setCell_same wr s 0 _ 35 (scell m tp 0) r0
  have h1 := heap_setCell_same _ s 1 _ 35 (scell m tp 1) h0
  have h2 := heap_setCell_same _ s 2 _ 35 (scell m tp 2) h1
  have h3 := heap_setCell_same _ s 3 _ 35 (scell m tp 3) h2
  exact h3
theorem Try.size35 : (Try.prog.info? 35).map (·.size) = some 4 := by kernel_rfl
theorem Row.of_block {w : World} {b : Nat} {T : TypeId} {xs : Array Value} (h : w.heap[b]? = some (.cells xs T (0, 0))) : Row w b T xs.size (fun i => xs[i]!) := ⟨xs, h, Nat.le_refl _, fun i hi => by simp [hi]⟩
theorem setN_drew (w : World) (b o : Nat) (x : Nat → Value) (n : Nat) : (setN w b o x n).drew = setN { w with drawn := w.drawn + 1 } b o x n := by
  induction n with
  | zero => rfl
  | succ n ih =>
    show ((setN w b o x n).setCell ⟨b, o + n, none⟩ (x n)).drew = (setN { w with drawn := w.drawn + 1 } b o x n).setCell ⟨b, o + n, none⟩ (x n)
    rw [← ih]; rfl
theorem newNums (w : World) (x : Nat → Int) : ∃ w1, w1 = w.alloc (.cells #[.int .i64 (x 0), .int .i64 (x 1), .int .i64 (x 2), .int .i64 (x 3), .int .i64 (x 4), .int .i64 (x 5), .int .i64 (x 6)] 41) ∧ Row w1 w.heap.size 41 7 (fun j => .int .i64 (x j)) ∧ Only [] w w1 ∧ w1.heap.size = w.heap.size + 1 := by
  refine ⟨_, rfl, (Row.made w _ 41).ext (fun i hi => ?_), Only.alloc _ _ _, by simp⟩
  have hi : i < 7 := hi
  obtain rfl | rfl | rfl | rfl | rfl | rfl | rfl : i = 0 ∨ i = 1 ∨ i = 2 ∨ i = 3 ∨ i = 4 ∨ i = 5 ∨ i = 6 := by omega
  all_goals rfl
/-- One channel more. -/
theorem AtC.next {m : A} {wr wj w4 w5 : World} {p c k j : Nat} {g : Nat → Value} (h : AtC m wr wj p c k j g) (O4 : Only [] wj w4) (hw5 : w5 = (setN w4 c (j * 10) (ccell m k j) 10).drew) (hp : p ≠ c) (hc : wr.heap.size ≤ c) (hj : j < m.m6 k) :
    ∃ g', AtC m wr w5 p c k (j + 1) g' := by
  subst hw5
  refine ⟨_, ((h.rc.keep O4 (by simp)).setN (j * 10) (ccell m k j) 10).drew, fun q hq => ?_, ((h.rt.keep O4 (by simp)).keep (Only.setN w4 c _ _ _) (by simpa using hp)).drew, (((h.ol.trans O4).trans' (Only.setN w4 c _ _ _) (fun i hi => by simp at hi; subst hi; exact .inr hc))).trans (Only.drew _ _)⟩
  by_cases e : j * 10 ≤ q
  · rw [if_pos ⟨e, by omega⟩, show q / 10 = j by omega, show q - j * 10 = q % 10 by omega]
  · rw [if_neg (by omega)]
    exact h.tt q (by omega)
theorem Row.four (w : World) (x : Nat → Int) : ∃ w1, w1 = w.alloc (.cells #[.int .i64 (x 0), .int .i64 (x 1), .int .i64 (x 2), .int .i64 (x 3)] 38) ∧ Row w1 w.heap.size 38 4 (fun j => .int .i64 (x j)) ∧ Only [] w w1 ∧ w1.heap.size = w.heap.size + 1 := by
  refine ⟨_, rfl, (Row.made w _ 38).ext (fun i hi => ?_), Only.alloc _ _ _, by simp⟩
  have hi : i < 4 := hi
  obtain rfl | rfl | rfl | rfl : i = 0 ∨ i = 1 ∨ i = 2 ∨ i = 3 := by omega
  all_goals rfl

/-- What ZZStats hands back: the reply's four fields, and where its topics lie. -/
def Topics (m : A) (w : World) (tp : Option Addr) (v : Nat → Value) : Prop :=
  (0 < m.n3 → ∃ b g, tp = some ⟨b, 0, none⟩ ∧ Row w b 73 (m.n3 * 7) g ∧ TopicsTo m v g m.n3) ∧ ∃ b, Chans m w b v m.n3
def StatsP (m : A) (w : World) (e : Ending) (w' : World) : Prop :=
  ∃ tp v, e = .returned (.agg #[.string m.ver, .string m.hea, .int .i64 m.st, .slice tp m.n3 m.n3]) ∧ Only [] w w' ∧ Topics m w' tp v

set_option maxRecDepth 100000 in
set_option maxHeartbeats 4000000 in
theorem zzStats13 (m : A) (B : Nat) (w : World) (hL : Laid w B m) (hS : Small m) (hA : Aligned m) (hB : B ≤ w.heap.size) :
    Calls Try.prog 13 #[.string m.ver, .string m.hea, .int .i64 m.st, .slice m.a3 m.n3 m.c3, .slice m.a4 m.n4 m.c4, .slice m.a5 m.n5 m.c5, .slice m.a6 m.n6 m.c6, .slice m.a7 m.n7 m.c7, .slice m.a8 m.n8 m.c8] w fun e w' => StatsP m w e w' := by
  have hm3 : ∀ w : World, (Instr.makeSlice 33 (.int .i64 (m.n3 : Int)) (.int .i64 (m.n3 : Int))).run Try.prog w = .ok (.slice (some ⟨w.heap.size, 0, none⟩) m.n3 m.n3) (w.alloc (.cells (zt3 m.n3) 73)) := fun w => run_make_any (P := Try.prog) 33 73 z73 7 80 m.n3 Try.underlying33 Try.info73 .i64 .i64 (by have := hS.s3; omega) (by have := hS.s3; omega) w
  have q3 := hS.s3
  have hnn := fun w => run_neq_slice_nil_any (P := Try.prog) w 22 9 m.a3 m.n3 m.c3 0 0 Try.underlying22
  by_cases hnil : m.a3 = none
  · have e : (!m.a3.isNone) = false := by cases h : m.a3 <;> simp_all
    rw [e] at hnn
    have z3 : m.n3 = 0 := by
      by_cases h0 : 0 < m.n3
      · obtain ⟨_, _, h, _⟩ := hL.h3 h0
        rw [hnil] at h; cases h
      · omega
    have hlt0 : ¬ (0 : Int) < (m.n3 : Int) := by omega
    have Z3 : Hid (m.n3 = 0) := z3
    clear e hm3 hnil z3
    go_enter Try.func13, Try.ntmps13
    go_wp2
    obtain ⟨wn, hwn⟩ : ∃ wn, wn = (w.alloc (.cells #[.string { data := #[] }, .string { data := #[] }, .int .i64 0, .slice none 0 0] 35)).alloc (.cells #[.string m.ver, .string m.hea, .int .i64 m.st, .slice none 0 0] 35) := ⟨_, rfl⟩
    rw [← hwn]
    go_loopw [20] (fun i wr => i = .int .i64 0 ∧ wr = wn) (fun _ _ => 0)
    case atStart => exact ⟨rfl, rfl⟩
    case round =>
      obtain ⟨rfl, rfl⟩ := hrel
      have r0 : wr.heap[w.heap.size]? = some (.cells #[.string { data := #[] }, .string { data := #[] }, .int .i64 0, .slice none 0 0] 35 (0, 0)) := by
        rw [hwn, Below.heap_alloc _ _ _ (by simp)]; exact heap_alloc_new w _
      have r1 : wr.heap[w.heap.size + 1]? = some (.cells #[.string m.ver, .string m.hea, .int .i64 m.st, .slice none 0 0] 35 (0, 0)) := by
        rw [hwn]; exact heap_alloc2_new w _ _
      have ol : Only [] w wr := by rw [hwn]; exact (Only.alloc _ _ _).trans (Only.alloc _ _ _)
      have rr0 : Row wr w.heap.size 35 4 _ := Row.of_block r0
      have rr1 : Row wr (w.heap.size + 1) 35 4 _ := Row.of_block r1
      have n0 : wr.cell? ⟨w.heap.size + 1, 0, none⟩ = some (.string m.ver) := rr1.cell (i := 0) (by omega)
      have n1 : wr.cell? ⟨w.heap.size + 1, 1, none⟩ = some (.string m.hea) := rr1.cell (i := 1) (by omega)
      have n2 : wr.cell? ⟨w.heap.size + 1, 2, none⟩ = some (.int .i64 m.st) := rr1.cell (i := 2) (by omega)
      have n3 : wr.cell? ⟨w.heap.size + 1, 3, none⟩ = some (.slice none 0 0) := rr1.cell (i := 3) (by omega)
      have t0 := rr0.cell (i := 0) (by omega)
      have t1 := rr0.cell (i := 1) (by omega)
      have t2 := rr0.cell (i := 2) (by omega)
      have t3 := rr0.cell (i := 3) (by omega)
      have fz := fun i => rr0.frozen i
      have hlast := last35 m (.slice none 0 0) r0
      have OF := Only.setN wr w.heap.size 0 (scell m (.slice none 0 0)) 4
      have FIN : Hid (StatsP m w (.returned (.agg #[.string m.ver, .string m.hea, .int .i64 m.st, .slice none 0 0])) (setN wr w.heap.size 0 (scell m (.slice none 0 0)) 4)) := by
        refine ⟨none, fun _ => .bool false, by rw [Z3.out], ol.trans' OF (fun i hi => by simp at hi; omega), fun h => ?_, 0, fun i hi => ?_⟩
        · have := Z3.out; omega
        · have := Z3.out; omega
      have HL : Hid ((setN wr w.heap.size 0 (scell m (.slice none 0 0)) 4).heap[w.heap.size]? = some (.cells #[.string m.ver, .string m.hea, .int .i64 m.st, .slice none 0 0] 35 (0, 0))) := hlast
      clear OF rr0 rr1 r0 r1 hwn ol hL hS hA hlast
      go_wp2
      (try simp only [Exit.inBlock, Exit.then])
      refine bodyPost_ret (results_cell_row rfl _ _ w.heap.size 35 _ (0, 0) _ rfl HL.out Try.underlying35 rfl Try.size35) rfl ?_
      exact FIN.out
  · have e : (!m.a3.isNone) = true := by cases h : m.a3 <;> simp_all
    rw [e] at hnn
    clear e
    go_enter Try.func13, Try.ntmps13
    go_wp2
    have S0 := AtT.start m w
    go_loopw [20] (fun i wr => ∃ (k : Nat) (v g : Nat → Value), k ≤ m.n3 ∧ i = .int .i64 k ∧ AtT m w wr w.heap.size k v g) (fun i _ => m.n3 - (intOf i).toNat)
    case atStart => exact ⟨0, fun _ => .bool false, _, by omega, rfl, S0⟩
    case round =>
      clear hm3 hnn S0
      obtain ⟨k, v, g, hk, rfl, hT⟩ := hrel
      by_cases hlt : k < m.n3
      · obtain ⟨b3, o3, e3, l3, c3⟩ := hL.h3 (by omega)
        have i3 := run_at1 (P := Try.prog) 22 9 m.a3 m.n3 m.c3 b3 o3 .i64 k Try.underlying22 Try.size9 e3 hlt
        obtain ⟨b4, o4, e4, l4, c4⟩ := hL.h4 (by have := hA.e4; omega)
        have i4 := run_at1 (P := Try.prog) 23 4 m.a4 m.n4 m.c4 b4 o4 .i64 k Try.underlying23 Try.size4 e4 (by have := hA.e4; omega)
        obtain ⟨b5, o5, e5, l5, c5⟩ := hL.h5 (by have := hA.e5; omega)
        have i5 := run_at (P := Try.prog) 24 38 m.a5 m.n5 m.c5 b5 o5 4 .i64 k Try.underlying24 Try.size38 e5 (by have := hA.e5; omega)
        obtain ⟨b6, o6, e6, l6, c6⟩ := hL.h6 (by have := hA.e6; omega)
        have i6 := run_at1 (P := Try.prog) 25 22 m.a6 m.n6 m.c6 b6 o6 .i64 k Try.underlying25 Try.size22 e6 (by have := hA.e6; omega)
        obtain ⟨b8, o8, e8, l8, c8⟩ := hL.h8 (by have := hA.e8; omega)
        have i8 := run_at1 (P := Try.prog) 27 42 m.a8 m.n8 m.c8 b8 o8 .i64 k Try.underlying27 Try.size42 e8 (by have := hA.e8; omega)
        have O := hT.ol
        have d3 := O.cell (by simp) (c3 k (by omega))
        have d4 := O.cell (by simp) (c4 k (by have := hA.e4; omega))
        have d8 := O.cell (by simp) (c8 k (by have := hA.e8; omega))
        have d6 := O.cell (by simp) (c6 k (by have := hA.e6; omega))
        have d5 : ∀ j, j < 4 → wr.cell? ⟨b5, o5 + k * 4 + j, none⟩ = some (.int .i64 (m.num k j)) := fun j hj => by
          have h := O.cell (by simp) (c5 (k * 4 + j) (by have := hA.e5; omega))
          rw [show o5 + (k * 4 + j) = o5 + k * 4 + j by omega] at h
          rw [h]; simp only [show (k * 4 + j) / 4 = k by omega, show (k * 4 + j) % 4 = j by omega]
        have d50 := d5 0 (by omega)
        have d51 := d5 1 (by omega)
        have d52 := d5 2 (by omega)
        have d53 := d5 3 (by omega)
        simp only [Nat.add_zero] at d50
        clear c3 c4 c5 c6 c8 d5 e3 e4 e5 e6 e8
        go_wp2
        obtain ⟨w1, hw1, ro1, O1, z1⟩ := Row.four wr (m.num k)
        rw [← hw1]
        have g3 := O1.cell (by simp) d3
        have g4 := O1.cell (by simp) d4
        have g30 := fun o => (Only.alloc [] w1 o).cell (by simp) g3
        have g40 := fun o => (Only.alloc [] w1 o).cell (by simp) g4
        have n0 := ro1.cell (i := 0) (by omega)
        have n1 := ro1.cell (i := 1) (by omega)
        have n2 := ro1.cell (i := 2) (by omega)
        have n3 := ro1.cell (i := 3) (by omega)
        have n00 := fun o => (Only.alloc [] w1 o).cell (by simp) n0
        have n10 := fun o => (Only.alloc [] w1 o).cell (by simp) n1
        have n20 := fun o => (Only.alloc [] w1 o).cell (by simp) n2
        have n30 := fun o => (Only.alloc [] w1 o).cell (by simp) n3
        clear d50 d51 d52 d53 hw1
        obtain ⟨w2, hw2, rt2, O2, z2⟩ := newTopic m k w1
        go_cut [22] from 45 to 61 (fun p wx => p = .pointer (some ⟨wr.heap.size + 1, 0, none⟩) ∧ wx = w2)
        case first =>
          have HW : Hid (w2 = (w1.alloc (.cells #[.string (m.name k), .slice none 0 0, .int .i64 (m.num k 0), .int .i64 (m.num k 1), .int .i64 (m.num k 2), .int .i64 (m.num k 3), .bool (m.pau k)] 73)).drew) := hw2
          clear hw2 rt2 O2 z2 hT O O1 d3 d4 d6 d8 i5 i6 i8 ro1 hL hS hA
          go_region
          go_wp2
          go_meet
          case rel => exact ⟨rfl, HW.out.symm⟩
        case rest =>
        obtain ⟨rfl, hcut⟩ := hcut
        replace hcut := hcut.symm
        subst hcut
        clear n0 n1 n2 n3 n00 n10 n20 n30 g3 g4 g30 g40 hw2
        have O12 : Only [] wr w2 := O1.trans O2
        rw [← z1]
        have Z1 : Hid (w1.heap.size = wr.heap.size + 1) := z1
        have Z2 : Hid (w2.heap.size = w1.heap.size + 1) := z2
        clear z1 z2
        have f6 := O12.cell (by simp) d6
        have ft := fun o => (rt2.alloc o).cell (i := 1) (by omega)
        have fz := fun o => (rt2.alloc o).frozen 1
        have f6a := fun o => (Only.alloc [] w2 o).cell (by simp) f6
        by_cases hn6 : m.b6 k = none
        · have e6 : (!(m.b6 k).isNone) = false := by cases h : m.b6 k <;> simp_all
          have hnn6 := fun w => run_neq_slice_nil_any (P := Try.prog) w 22 9 (m.b6 k) (m.m6 k) (m.d6 k) 0 0 Try.underlying22
          rw [e6] at hnn6
          have z6 : m.m6 k = 0 := by
            by_cases h0 : 0 < m.m6 k
            · obtain ⟨_, _, h, _⟩ := hL.g6 k (by have := hA.e6; omega) h0
              rw [hn6] at h; cases h
            · omega
          have Z6 : Hid (m.m6 k = 0) := z6
          clear e6 hn6 z6
          go_wp2
          clear hnn6 ft fz f6a d3 d4 i3 i4 i5 ro1
          obtain ⟨wo, rfl⟩ : ∃ wo : World, wo = wr := ⟨_, rfl⟩
          go_loopw [23] (fun i wj => i = .int .i64 0 ∧ wj = w2) (fun _ _ => 0)
          case atStart => exact ⟨rfl, rfl⟩
          case round =>
            obtain ⟨rfl, hwj⟩ := hrel
            subst hwj
            obtain ⟨wj, rfl⟩ : ∃ wj : World, wj = wr := ⟨_, rfl⟩
            have hlt0 : ¬ (0 : Int) < (m.m6 k : Int) := by have := Z6.out; omega
            have r1 := hT.r1.keep O12 (by simp)
            have v3 : wj.cell? ⟨w.heap.size + 1, 3, none⟩ = some (.slice (some ⟨w.heap.size + 1 + 1, 0, none⟩) m.n3 m.n3) := r1.cell (i := 3) (by omega)
            have n0 : wj.cell? ⟨w1.heap.size, 0, none⟩ = some (.string (m.name k)) := rt2.cell (i := 0) (by omega)
            have n1 : wj.cell? ⟨w1.heap.size, 1, none⟩ = some (.slice none 0 0) := rt2.cell (i := 1) (by omega)
            have n2 : wj.cell? ⟨w1.heap.size, 2, none⟩ = some (.int .i64 (m.num k 0)) := rt2.cell (i := 2) (by omega)
            have n3 : wj.cell? ⟨w1.heap.size, 3, none⟩ = some (.int .i64 (m.num k 1)) := rt2.cell (i := 3) (by omega)
            have n4 : wj.cell? ⟨w1.heap.size, 4, none⟩ = some (.int .i64 (m.num k 2)) := rt2.cell (i := 4) (by omega)
            have n5 : wj.cell? ⟨w1.heap.size, 5, none⟩ = some (.int .i64 (m.num k 3)) := rt2.cell (i := 5) (by omega)
            have n6 : wj.cell? ⟨w1.heap.size, 6, none⟩ = some (.bool (m.pau k)) := rt2.cell (i := 6) (by omega)
            have r2 := hT.r2.keep O12 (by simp)
            have t0 := r2.cell (i := k * 7) (by omega)
            have t1 := r2.cell (i := k * 7 + 1) (by omega)
            have t2 := r2.cell (i := k * 7 + 2) (by omega)
            have t3 := r2.cell (i := k * 7 + 3) (by omega)
            have t4 := r2.cell (i := k * 7 + 4) (by omega)
            have t5 := r2.cell (i := k * 7 + 5) (by omega)
            have t6 := r2.cell (i := k * 7 + 6) (by omega)
            have fz := fun i => r2.frozen i
            have hix : ∀ w0 : World, (Instr.indexAt 33 (.slice (some ⟨w.heap.size + 1 + 1, 0, none⟩) m.n3 m.n3) (.int .i64 (k : Int))).run Try.prog w0 = .ok (.pointer (some ⟨w.heap.size + 1 + 1, k * 7, none⟩)) w0 := fun w0 => by
              have h := run_at (P := Try.prog) 33 73 (some ⟨w.heap.size + 1 + 1, 0, none⟩) m.n3 m.n3 (w.heap.size + 1 + 1) 0 7 .i64 k Try.underlying33 Try.size73 rfl hlt w0
              rwa [Nat.zero_add] at h
            obtain ⟨v', g'', hN⟩ := hT.next O12 none (fun h => by have := Z6.out; omega) rfl hlt
            rw [Z6.out] at hN
            have HT : Hid (AtT m w (setN wj (w.heap.size + 1 + 1) (k * 7) (tcell m (fun _ => .slice none 0 0) k) 7) w.heap.size (k + 1) v' g'') := hN
            clear r1 r2 hN hT O O1 O12 Z1 Z2 d8 i8 rt2 O2
            go_wp2
            go_roundw
            case rel => exact ⟨k + 1, v', g'', by omega, by go_num, HT.out⟩
            case measure => simp [intOf]; omega
        · have e6 : (!(m.b6 k).isNone) = true := by cases h : m.b6 k <;> simp_all
          have hnn6 := fun w => run_neq_slice_nil_any (P := Try.prog) w 22 9 (m.b6 k) (m.m6 k) (m.d6 k) 0 0 Try.underlying22
          rw [e6] at hnn6
          have s6 : m.m6 k ≤ 65536 := Small.each hS (by have := hA.e6; omega)
          have hm6 : ∀ w : World, (Instr.makeSlice 71 (.int .i64 (m.m6 k : Int)) (.int .i64 (m.m6 k : Int))).run Try.prog w = .ok (.slice (some ⟨w.heap.size, 0, none⟩) (m.m6 k) (m.m6 k)) (w.alloc (.cells (zt6 (m.m6 k)) 76)) := fun w => run_make_any (P := Try.prog) 71 76 z76 10 104 (m.m6 k) Try.underlying71 Try.info76 .i64 .i64 (by omega) (by omega) w
          clear e6
          go_wp2
          obtain ⟨w3, hw3, rt3, ⟨g3, rc3⟩, O3, z3⟩ := newChans rt2
          rw [← hw3]
          have hp2 := rt2.lt
          have C0 : AtC m wr w3 w1.heap.size w2.heap.size k 0 g3 := ⟨rc3, fun q hq => by omega, rt3, O12.trans' O3 (fun i hi => by simp at hi; have := Z1.out; omega)⟩
          clear hw3 rt3 rc3 O3 z3 hm6 hnn6 ft fz f6 f6a d3 d4 i3 i4 i5 rt2 O2 ro1
          obtain ⟨wo, rfl⟩ : ∃ wo : World, wo = wr := ⟨_, rfl⟩
          go_loopw [23] (fun i wj => ∃ (j : Nat) (g' : Nat → Value), j ≤ m.m6 k ∧ i = .int .i64 j ∧ AtC m wo wj w1.heap.size w2.heap.size k j g') (fun i _ => m.m6 k - (intOf i).toNat)
          case atStart => exact ⟨0, g3, by omega, rfl, C0⟩
          case round =>
            clear C0
            obtain ⟨wj, rfl⟩ : ∃ wj : World, wj = wr := ⟨_, rfl⟩
            obtain ⟨j, g', hj, rfl, hC⟩ := hrel
            have Oj := O.trans hC.ol
            have a6 := hC.ol.cell (by simp) d6
            by_cases hlt2 : j < m.m6 k
            · obtain ⟨b7, o7, e7, l7, c7⟩ := hL.h7 (by have := hA.e7; omega)
              have i7 := run_at1 (P := Try.prog) 26 23 m.a7 m.n7 m.c7 b7 o7 .i64 k Try.underlying26 Try.size23 e7 (by have := hA.e7; omega)
              obtain ⟨y6, p6, q6, _, k6⟩ := hL.g6 k (by have := hA.e6; omega) (by omega)
              have j6 := run_at1 (P := Try.prog) 22 9 (m.b6 k) (m.m6 k) (m.d6 k) y6 p6 .i64 j Try.underlying22 Try.size9 q6 hlt2
              obtain ⟨y7, p7, q7, _, k7⟩ := hL.g7 k (by have := hA.e7; omega) (by have := hA.i7 k hlt; omega)
              have j7 := run_at1 (P := Try.prog) 23 4 (m.b7 k) (m.m7 k) (m.d7 k) y7 p7 .i64 j Try.underlying23 Try.size4 q7 (by have := hA.i7 k hlt; omega)
              obtain ⟨y8, p8, q8, _, k8⟩ := hL.g8 k (by have := hA.e8; omega) (by have := hA.i8 k hlt; omega)
              have j8 := run_at (P := Try.prog) 42 41 (m.b8 k) (m.m8 k) (m.d8 k) y8 p8 7 .i64 j Try.underlying42 Try.size41 q8 (by have := hA.i8 k hlt; omega)
              have a7 := Oj.cell (by simp) (c7 k (by have := hA.e7; omega))
              have a8 := hC.ol.cell (by simp) d8
              have x6 := Oj.cell (by simp) (k6 j (by omega))
              have x7 := Oj.cell (by simp) (k7 j (by have := hA.i7 k hlt; omega))
              have d8' : ∀ i, i < 7 → wj.cell? ⟨y8, p8 + j * 7 + i, none⟩ = some (.int .i64 (m.cnum k j i)) := fun i hi => by
                have h := Oj.cell (by simp) (k8 (j * 7 + i) (by have := hA.i8 k hlt; omega))
                rw [show p8 + (j * 7 + i) = p8 + j * 7 + i by omega] at h
                rw [h]; simp only [show (j * 7 + i) / 7 = j by omega, show (j * 7 + i) % 7 = i by omega]
              have t0 := d8' 0 (by omega)
              have t1 := d8' 1 (by omega)
              have t2 := d8' 2 (by omega)
              have t3 := d8' 3 (by omega)
              have t4 := d8' 4 (by omega)
              have t5 := d8' 5 (by omega)
              have t6 := d8' 6 (by omega)
              simp only [Nat.add_zero] at t0
              clear d8' k6 k7 k8 c7 e7 q6 q7 q8
              go_wp2
              obtain ⟨w4, hw4, ro4, O4, z4⟩ := newNums wj (m.cnum k j)
              rw [← hw4]
              have rt4 := hC.rt.keep O4 (by simp)
              have rc4 := hC.rc.keep O4 (by simp)
              have v1 : w4.cell? ⟨w1.heap.size, 1, none⟩ = some (.slice (some ⟨w2.heap.size, 0, none⟩) (m.m6 k) (m.m6 k)) := rt4.cell (i := 1) (by omega)
              have n0 := ro4.cell (i := 0) (by omega)
              have n1 := ro4.cell (i := 1) (by omega)
              have n2 := ro4.cell (i := 2) (by omega)
              have n3 := ro4.cell (i := 3) (by omega)
              have n4 := ro4.cell (i := 4) (by omega)
              have n5 := ro4.cell (i := 5) (by omega)
              have n6 := ro4.cell (i := 6) (by omega)
              have u6 := O4.cell (by simp) a6
              have u7 := O4.cell (by simp) a7
              have u9 := O4.cell (by simp) x6
              have u4 := O4.cell (by simp) x7
              have r0 := rc4.cell (i := j * 10) (by omega)
              have r1 := rc4.cell (i := j * 10 + 1) (by omega)
              have r2 := rc4.cell (i := j * 10 + 2) (by omega)
              have r3 := rc4.cell (i := j * 10 + 3) (by omega)
              have r4 := rc4.cell (i := j * 10 + 4) (by omega)
              have r5 := rc4.cell (i := j * 10 + 5) (by omega)
              have r6 := rc4.cell (i := j * 10 + 6) (by omega)
              have r7 := rc4.cell (i := j * 10 + 7) (by omega)
              have r8 := rc4.cell (i := j * 10 + 8) (by omega)
              have r9 := rc4.cell (i := j * 10 + 9) (by omega)
              have fz := fun i => rc4.frozen i
              have hix : ∀ w : World, (Instr.indexAt 71 (.slice (some ⟨w2.heap.size, 0, none⟩) (m.m6 k) (m.m6 k)) (.int .i64 (j : Int))).run Try.prog w = .ok (.pointer (some ⟨w2.heap.size, j * 10, none⟩)) w := fun w => by
                have h := run_at (P := Try.prog) 71 76 (some ⟨w2.heap.size, 0, none⟩) (m.m6 k) (m.m6 k) w2.heap.size 0 10 .i64 j Try.underlying71 Try.size76 rfl hlt2 w
                rwa [Nat.zero_add] at h
              obtain ⟨w5, hw5⟩ : ∃ w5, w5 = (setN w4 w2.heap.size (j * 10) (ccell m k j) 10).drew := ⟨_, rfl⟩
              obtain ⟨g'', hN⟩ := hC.next O4 hw5 (by omega) (by have := Z1.out; omega) hlt2
              obtain ⟨wd, hwd⟩ : ∃ wd : World, wd = { w4 with drawn := w4.drawn + 1 } := ⟨_, rfl⟩
              have HN : Hid (AtC m wo (setN wd w2.heap.size (j * 10) (ccell m k j) 10) w1.heap.size w2.heap.size k (j + 1) g'') := by
                rw [hwd, ← setN_drew, ← hw5]; exact hN
              have D : ∀ p, wd.cell? p = w4.cell? p := fun p => by rw [hwd]; rfl
              have DF : ∀ p, wd.frozen? p = w4.frozen? p := fun p => by rw [hwd]; rfl
              rw [← D] at v1 n0 n1 n2 n3 n4 n5 n6 u6 u7 u9 u4 r0 r1 r2 r3 r4 r5 r6 r7 r8 r9
              simp only [← DF] at fz
              have HD : Hid (wd = { w4 with drawn := w4.drawn + 1 }) := hwd
              clear D DF hwd hN hw5 hC rt4 rc4 ro4 t0 t1 t2 t3 t4 t5 t6 a6 a7 a8 x6 x7 hT d6 d8 i8 j8 hw4 z4 Oj O4 O1 O12 O hp2 hL hS hA
              refine wp_region_still_tail 33 (by kernel_rfl) (by kernel_rfl) ?_
              rw [← HD.out]
              simp only [List.take_succ_cons, List.take_zero, List.drop_succ_cons, List.drop_zero]
              repeat still_step
              refine wpStill_nil ?_
              go_wp2
              go_roundw
              case rel => exact ⟨j + 1, g'', by omega, by go_num, HN.out⟩
              case measure => simp [intOf]; omega
            · have hjk : j = m.m6 k := by omega
              subst hjk
              have r1 := hT.r1.keep hC.ol (by simp)
              have v3 : wj.cell? ⟨w.heap.size + 1, 3, none⟩ = some (.slice (some ⟨w.heap.size + 1 + 1, 0, none⟩) m.n3 m.n3) := r1.cell (i := 3) (by omega)
              have n0 : wj.cell? ⟨w1.heap.size, 0, none⟩ = some (.string (m.name k)) := hC.rt.cell (i := 0) (by omega)
              have n1 : wj.cell? ⟨w1.heap.size, 1, none⟩ = some (.slice (some ⟨w2.heap.size, 0, none⟩) (m.m6 k) (m.m6 k)) := hC.rt.cell (i := 1) (by omega)
              have n2 : wj.cell? ⟨w1.heap.size, 2, none⟩ = some (.int .i64 (m.num k 0)) := hC.rt.cell (i := 2) (by omega)
              have n3 : wj.cell? ⟨w1.heap.size, 3, none⟩ = some (.int .i64 (m.num k 1)) := hC.rt.cell (i := 3) (by omega)
              have n4 : wj.cell? ⟨w1.heap.size, 4, none⟩ = some (.int .i64 (m.num k 2)) := hC.rt.cell (i := 4) (by omega)
              have n5 : wj.cell? ⟨w1.heap.size, 5, none⟩ = some (.int .i64 (m.num k 3)) := hC.rt.cell (i := 5) (by omega)
              have n6 : wj.cell? ⟨w1.heap.size, 6, none⟩ = some (.bool (m.pau k)) := hC.rt.cell (i := 6) (by omega)
              have r2 := hT.r2.keep hC.ol (by simp)
              have t0 := r2.cell (i := k * 7) (by omega)
              have t1 := r2.cell (i := k * 7 + 1) (by omega)
              have t2 := r2.cell (i := k * 7 + 2) (by omega)
              have t3 := r2.cell (i := k * 7 + 3) (by omega)
              have t4 := r2.cell (i := k * 7 + 4) (by omega)
              have t5 := r2.cell (i := k * 7 + 5) (by omega)
              have t6 := r2.cell (i := k * 7 + 6) (by omega)
              have fz := fun i => r2.frozen i
              have hix : ∀ w0 : World, (Instr.indexAt 33 (.slice (some ⟨w.heap.size + 1 + 1, 0, none⟩) m.n3 m.n3) (.int .i64 (k : Int))).run Try.prog w0 = .ok (.pointer (some ⟨w.heap.size + 1 + 1, k * 7, none⟩)) w0 := fun w0 => by
                have h := run_at (P := Try.prog) 33 73 (some ⟨w.heap.size + 1 + 1, 0, none⟩) m.n3 m.n3 (w.heap.size + 1 + 1) 0 7 .i64 k Try.underlying33 Try.size73 rfl hlt w0
                rwa [Nat.zero_add] at h
              obtain ⟨v', g'', hN⟩ := hT.next hC.ol (some ⟨w2.heap.size, 0, none⟩) (fun _ => ⟨w2.heap.size, rfl, by have := hT.r2.lt; have := Z1.out; have := Z2.out; omega, hC.rc.ext (fun q hq => hC.tt q hq)⟩) rfl hlt
              have HT : Hid (AtT m w (setN wj (w.heap.size + 1 + 1) (k * 7) (tcell m (fun _ => .slice (some ⟨w2.heap.size, 0, none⟩) (m.m6 k) (m.m6 k)) k) 7) w.heap.size (k + 1) v' g'') := hN
              clear r1 r2 hN hC hT O Oj O1 O12 Z1 Z2 d6 d8 i8 hp2 w3 g3
              go_wp2
              go_roundw
              case rel => exact ⟨k + 1, v', g'', by omega, by go_num, HT.out⟩
              case measure => simp [intOf]; omega
      · have hkn : k = m.n3 := by omega
        subst hkn
        obtain ⟨hs, r0, r1, r2, tt, ch, ol⟩ := hT
        have rr0 : Row wr w.heap.size 35 4 _ := Row.of_block r0
        have n0 : wr.cell? ⟨w.heap.size + 1, 0, none⟩ = some (.string m.ver) := r1.cell (i := 0) (by omega)
        have n1 : wr.cell? ⟨w.heap.size + 1, 1, none⟩ = some (.string m.hea) := r1.cell (i := 1) (by omega)
        have n2 : wr.cell? ⟨w.heap.size + 1, 2, none⟩ = some (.int .i64 m.st) := r1.cell (i := 2) (by omega)
        have n3 : wr.cell? ⟨w.heap.size + 1, 3, none⟩ = some (.slice (some ⟨w.heap.size + 1 + 1, 0, none⟩) m.n3 m.n3) := r1.cell (i := 3) (by omega)
        have t0 := rr0.cell (i := 0) (by omega)
        have t1 := rr0.cell (i := 1) (by omega)
        have t2 := rr0.cell (i := 2) (by omega)
        have t3 := rr0.cell (i := 3) (by omega)
        have fz := fun i => rr0.frozen i
        have hlast := last35 m (.slice (some ⟨w.heap.size + 1 + 1, 0, none⟩) m.n3 m.n3) r0
        have OF := Only.setN wr w.heap.size 0 (scell m (.slice (some ⟨w.heap.size + 1 + 1, 0, none⟩) m.n3 m.n3)) 4
        have FIN : Hid (StatsP m w (.returned (.agg #[.string m.ver, .string m.hea, .int .i64 m.st, .slice (some ⟨w.heap.size + 1 + 1, 0, none⟩) m.n3 m.n3])) (setN wr w.heap.size 0 (scell m (.slice (some ⟨w.heap.size + 1 + 1, 0, none⟩) m.n3 m.n3)) 4)) :=
          ⟨_, v, rfl, ol.trans' OF (fun i hi => by simp at hi; omega), fun _ => ⟨_, g, rfl, r2.keep OF (by simp; omega), tt⟩, w.heap.size + 1 + 1, fun i hi => by
            obtain ⟨ca, e1, e2⟩ := ch i hi
            refine ⟨ca, e1, fun h0 => ?_⟩
            obtain ⟨c, f1, f2, f3⟩ := e2 h0
            exact ⟨c, f1, f2, f3.keep OF (by simp; omega)⟩⟩
        clear OF rr0 r0 r1 r2 tt ch ol hL hS hA
        have HL : Hid ((setN wr w.heap.size 0 (scell m (.slice (some ⟨w.heap.size + 1 + 1, 0, none⟩) m.n3 m.n3)) 4).heap[w.heap.size]? = some (.cells #[.string m.ver, .string m.hea, .int .i64 m.st, .slice (some ⟨w.heap.size + 1 + 1, 0, none⟩) m.n3 m.n3] 35 (0, 0))) := hlast
        clear hlast
        go_wp2
        (try simp only [Exit.inBlock, Exit.then])
        refine bodyPost_ret (results_cell_row rfl _ _ w.heap.size 35 _ (0, 0) _ rfl HL.out Try.underlying35 rfl Try.size35) rfl ?_
        exact FIN.out
end Go.Proofs.Qxb6602566a
