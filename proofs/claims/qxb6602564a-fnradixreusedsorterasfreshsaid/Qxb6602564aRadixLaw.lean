/-
  ZZRadix, ZZRadixAfter, and the law over them.
-/
import Derived.Test.Qxb6602564aRadix
import Derived.Test.Qxb6602564aGuards
namespace Go.Proofs.Qxb6602564a
open Go.RowKit
set_option linter.unusedVariables false

/-- Three rows of ints that lie in w. -/
def Rows3 (w : World) (b0 b1 b2 n : Nat) (x : Nat → Key) : Prop :=
  Row w b0 3 n (ints (fun i => (x i).1)) ∧ Row w b1 3 n (ints (fun i => (x i).2.1)) ∧ Row w b2 3 n (ints (fun i => (x i).2.2))

theorem Rows3.keep {w w' : World} {b0 b1 b2 n : Nat} {x : Nat → Key} (h : Rows3 w b0 b1 b2 n x) (ho : Only [] w w') : Rows3 w' b0 b1 b2 n x :=
  ⟨h.1.keep ho (by simp), h.2.1.keep ho (by simp), h.2.2.keep ho (by simp)⟩

/-- A new sorter, its buffer nil. -/
theorem newSorter (w : World) : ∃ w1, w1 = w.alloc (.cells #[.slice none 0 0] 48) ∧ Row w1 w.heap.size 48 1 (fun _ => .slice none 0 0) ∧ Only [] w w1 ∧ w1.heap.size = w.heap.size + 1 :=
  ⟨_, rfl, (Row.made w #[.slice none 0 0] 48).ext (fun i hi => by obtain rfl : i = 0 := by simpa using hi
                                                                  rfl), Only.alloc _ _ _, by simp⟩

/-- What both doors leave: three new rows with the sorted keys. -/
def Out3 (w : World) (n : Nat) (y : Nat → Key) (e : Ending) (w' : World) : Prop :=
  ∃ d0 d1 d2, e = .returned (.tuple #[.slice (some ⟨d0, 0, none⟩) n n, .slice (some ⟨d1, 0, none⟩) n n, .slice (some ⟨d2, 0, none⟩) n n]) ∧ Rows3 w' d0 d1 d2 n y ∧ Only [] w w'

theorem out3_of {w w3 w' : World} {n : Nat} {y : Nat → Key} (ho : Only [] w w3) (h : Split3 w3 w' n (fun i => (y i).1) (fun i => (y i).2.1) (fun i => (y i).2.2)) :
    Out3 w n y (.returned (.tuple #[.slice (some ⟨w3.heap.size, 0, none⟩) n n, .slice (some ⟨w3.heap.size + 1, 0, none⟩) n n, .slice (some ⟨w3.heap.size + 1 + 1, 0, none⟩) n n])) w' :=
  ⟨_, _, _, rfl, ⟨h.1, h.2.1, h.2.2.1⟩, ho.trans h.2.2.2⟩

set_option maxHeartbeats 400000 in
theorem zzRadix24 (b0 b1 b2 n c0 c1 c2 : Nat) (x : Nat → Key) (w : World) (hn : 0 < n) (hl : n ≤ 65536) (r : Rows3 w b0 b1 b2 n x) :
    Calls Try.prog 24 #[.slice (some ⟨b0, 0, none⟩) n c0, .slice (some ⟨b1, 0, none⟩) n c1, .slice (some ⟨b2, 0, none⟩) n c2] w fun e w' => Out3 w n (sortK n 3 0 x) e w' := by
  go_enter Try.func24, Try.ntmps24
  go_wp2_with fail
  obtain ⟨w1, hw1, rs, ho1, hz1⟩ := newSorter w
  rw [← hw1]
  clear hw1
  have r1 := r.keep ho1
  refine (deal44 b0 b1 b2 n c0 c1 c2 _ _ _ w1 hl r1.1 r1.2.1 r1.2.2).mono ?_
  rintro e w2 ⟨rfl, rk, ho2⟩
  replace rs := rs.keep ho2 (by simp)
  have hk : w.heap.size ≠ w1.heap.size := by omega
  have HZ : Hid (w1.heap.size = w.heap.size + 1) := hz1
  clear hz1
  go_wp2_with fail
  refine (radix45 w.heap.size w1.heap.size n (.slice none 0 0) [] x w2 hn hl rs (.inl ⟨rfl, rfl⟩) rk hk (by simp)).mono ?_
  rintro e w3 ⟨rfl, v', B', _, _, _, rk3, ho3⟩
  have o3 : Only [] w w3 := (ho1.trans ho2).trans' ho3 (fun i hi => by
    have := HZ.out
    simp only [List.mem_cons, List.not_mem_nil, or_false] at hi
    exact .inr (by omega))
  clear ho3 ho2 ho1 rs rk r1 r
  go_wp2_with fail
  refine (split46 w1.heap.size n n _ w3 hl rk3).mono ?_
  rintro e w4 ⟨rfl, hs⟩
  have fin := out3_of o3 hs
  clear hs o3 rk3
  go_wp2_with fail
  go_ret3
  exact fin

set_option maxHeartbeats 800000 in
theorem zzRadixAfter29 (a0 a1 a2 b0 b1 b2 m n : Nat) (d0 d1 d2 c0 c1 c2 : Nat) (x y : Nat → Key) (w : World) (hm : 0 < m) (hml : m ≤ 65536) (hn : 0 < n) (hl : n ≤ 65536) (q : Rows3 w a0 a1 a2 m y) (r : Rows3 w b0 b1 b2 n x) :
    Calls Try.prog 29 #[.slice (some ⟨a0, 0, none⟩) m d0, .slice (some ⟨a1, 0, none⟩) m d1, .slice (some ⟨a2, 0, none⟩) m d2, .slice (some ⟨b0, 0, none⟩) n c0, .slice (some ⟨b1, 0, none⟩) n c1, .slice (some ⟨b2, 0, none⟩) n c2] w fun e w' => Out3 w n (sortK n 3 0 x) e w' := by
  go_enter Try.func29, Try.ntmps29
  go_wp2_with fail
  obtain ⟨w1, hw1, rs, ho1, hz1⟩ := newSorter w
  rw [← hw1]
  clear hw1
  have q1 := q.keep ho1
  refine (deal44 a0 a1 a2 m d0 d1 d2 _ _ _ w1 hml q1.1 q1.2.1 q1.2.2).mono ?_
  rintro e w2 ⟨rfl, rk, ho2⟩
  replace rs := rs.keep ho2 (by simp)
  have hk : w.heap.size ≠ w1.heap.size := by omega
  have HZ : Hid (w1.heap.size = w.heap.size + 1) := hz1
  clear hz1
  go_wp2_with fail
  refine (radix45 w.heap.size w1.heap.size m (.slice none 0 0) [] y w2 hm hml rs (.inl ⟨rfl, rfl⟩) rk hk (by simp)).mono ?_
  rintro e w3 ⟨rfl, v', B', rs3, hb3, hB3, _, ho3⟩
  have o3 : Only [] w w3 := (ho1.trans ho2).trans' ho3 (fun i hi => by
    have := HZ.out
    simp only [List.mem_cons, List.not_mem_nil, or_false] at hi
    exact .inr (by omega))
  have s2 : w.heap.size ≤ w2.heap.size := (ho1.trans ho2).size
  have HB : Hid (∀ b, b ∈ B' → w.heap.size ≤ b ∧ b < w3.heap.size) := fun b hb => by
    refine ⟨?_, ?_⟩
    · rcases hB3 b hb with h | h
      · simp at h
      · omega
    · rcases hb3 with ⟨_, rfl⟩ | ⟨bb, bl, bc, g, _, rfl, _, rr, _⟩
      · simp at hb
      · simp at hb; subst hb; exact rr.lt
  clear ho3 ho2 ho1 rk q1 q hB3 s2 hk HZ
  have r3 := r.keep o3
  go_wp2_with fail
  refine (deal44 b0 b1 b2 n c0 c1 c2 _ _ _ w3 hl r3.1 r3.2.1 r3.2.2).mono ?_
  rintro e w4 ⟨rfl, rk4, ho4⟩
  have hk2 : w.heap.size ≠ w3.heap.size := by have := rs3.lt; omega
  replace rs3 := rs3.keep ho4 (by simp)
  have hb4 : BufOk w4 w.heap.size v' B' := by
    rcases hb3 with h | ⟨bb, bl, bc, g, h1, h2, h3, h4, h5⟩
    · exact .inl h
    · exact .inr ⟨bb, bl, bc, g, h1, h2, h3, h4.keep ho4 (by simp), h5⟩
  have hkB : w3.heap.size ∉ B' := fun h => by have := (HB.out _ h).2; omega
  clear hb3 r3 r
  go_wp2_with fail
  refine (radix45 w.heap.size w3.heap.size n v' B' x w4 hn hl rs3 hb4 rk4 hk2 hkB).mono ?_
  rintro e w5 ⟨rfl, v5, B5, _, _, _, rk5, ho5⟩
  have o5 : Only [] w w5 := (o3.trans ho4).trans' ho5 (fun i hi => by
    simp only [List.mem_cons] at hi
    rcases hi with e | e | e
    · have := o3.size; exact .inr (by omega)
    · exact .inr (by omega)
    · exact .inr (HB.out i e).1)
  clear ho5 ho4 o3 rs3 hb4 rk4 hkB hk2
  go_wp2_with fail
  refine (split46 w3.heap.size n n _ w5 hl rk5).mono ?_
  rintro e w6 ⟨rfl, hs⟩
  have fin := out3_of o5 hs
  clear hs o5 rk5
  go_wp2_with fail
  go_ret3
  exact fin

/-- A clone of a slice that is not empty, told of the world before it. -/
theorem clone_of {w0 w : World} (ho : Only [] w0 w) (b off len cap : Nat) (z : List Int) (hl : len ≤ 65536) (hc : ∀ i, i < len → w0.cell? ⟨b, off + i, none⟩ = some (.int .i64 (z.getD i 0))) :
    Calls Try.prog 23 #[.slice (some ⟨b, off, none⟩) len cap] w fun e w' => e = .returned (.slice (some ⟨w.heap.size, 0, none⟩) len len) ∧ Row w' w.heap.size 3 len (ints (fun i => z.getD i 0)) ∧ Only [] w w' :=
  (clone23 b off len cap (fun i => z.getD i 0) w hl (fun i hi => ho.cell (by simp) (hc i hi))).mono (fun e w' ⟨h1, h2⟩ => ⟨h1, h2.1, h2.2⟩)

set_option maxHeartbeats 2000000 in
theorem law7 (a0 a1 a2 a3 a4 a5 : Option Addr) (l0 c0 l1 c1 l2 c2 l3 c3 l4 c4 l5 c5 : Nat) (z0 z1 z2 z3 z4 z5 : List Int) (w : World)
    (i0 : Ints w a0 l0 z0) (i1 : Ints w a1 l1 z1) (i2 : Ints w a2 l2 z2) (i3 : Ints w a3 l3 z3) (i4 : Ints w a4 l4 z4) (i5 : Ints w a5 l5 z5)
    (h0 : (l0 : Int) ≤ 9223372036854775807) (h1 : (l1 : Int) ≤ 9223372036854775807) (h2 : (l2 : Int) ≤ 9223372036854775807) (h3 : (l3 : Int) ≤ 9223372036854775807) (h4 : (l4 : Int) ≤ 9223372036854775807) (h5 : (l5 : Int) ≤ 9223372036854775807) :
    Calls Try.prog 7 #[.slice a0 l0 c0, .slice a1 l1 c1, .slice a2 l2 c2, .slice a3 l3 c3, .slice a4 l4 c4, .slice a5 l5 c5] w fun e w' => e = .returned (.bool true) ∧ Below w.heap.size w w' := by
  go_enter Try.func7, Try.ntmps7
  go_wp2_with fail
  refine (zzBytes27 _ _ _ _ _ _ _ _ _ _ _ _ _ _ _ _ _ _ _ h0 h1 h2 h3 h4 h5).mono ?_
  rintro e w' ⟨⟨r, rfl, -⟩, hw⟩
  subst hw
  cases r
  · go_wp2_with fail
    go_ret
    exact ⟨rfl, Below.refl _ _⟩
  go_wp2_with fail
  refine (twoFit28 _ _ _ _ _ _ _ _ _ _ _ _ _ _ _ _ _ _ z3 z4 z5 _ i3 i4 i5 h0 h1 h2 h3 h4 h5).mono ?_
  rintro e w'' ⟨⟨r, rfl, hr⟩, hw⟩
  subst hw
  cases r
  · go_wp2_with fail
    go_ret
    exact ⟨rfl, Below.refl _ _⟩
  obtain ⟨⟨p0, e1, e2, m0⟩, p3, e4, e5, m3⟩ := hr rfl
  obtain rfl := e1.symm
  obtain rfl := e2.symm
  obtain rfl := e4.symm
  obtain rfl := e5.symm
  obtain ⟨b0, o0, rfl, hc0⟩ := i0.2 p0
  obtain ⟨b1, o1, rfl, hc1⟩ := i1.2 p0
  obtain ⟨b2, o2, rfl, hc2⟩ := i2.2 p0
  obtain ⟨b3, o3, rfl, hc3⟩ := i3.2 p3
  obtain ⟨b4, o4, rfl, hc4⟩ := i4.2 p3
  obtain ⟨b5, o5, rfl, hc5⟩ := i5.2 p3
  clear i0 i1 i2 i3 i4 i5 hr h1 h2 h4 h5 e1 e2 e4 e5
  have O0 := Only.refl [] w''
  go_wp2_with fail
  refine (clone_of O0 b0 o0 l0 c0 z0 m0 hc0).mono ?_
  rintro e w1 ⟨rfl, r0, q0⟩
  have O1 := O0.trans q0
  clear O0 hc0
  go_wp2_with fail
  refine (clone_of O1 b1 o1 l0 c1 z1 m0 hc1).mono ?_
  rintro e w2 ⟨rfl, r1, q1⟩
  have O2 := O1.trans q1
  replace r0 := r0.keep q1 (by simp)
  clear O1 hc1 q0 q1
  go_wp2_with fail
  refine (clone_of O2 b2 o2 l0 c2 z2 m0 hc2).mono ?_
  rintro e w3 ⟨rfl, r2, q2⟩
  have O3 := O2.trans q2
  replace r0 := r0.keep q2 (by simp)
  replace r1 := r1.keep q2 (by simp)
  clear O2 hc2 q2
  go_wp2_with fail
  refine (clone_of O3 b3 o3 l3 c3 z3 m3 hc3).mono ?_
  rintro e w4 ⟨rfl, r3, q3⟩
  have O4 := O3.trans q3
  replace r0 := r0.keep q3 (by simp)
  replace r1 := r1.keep q3 (by simp)
  replace r2 := r2.keep q3 (by simp)
  clear O3 hc3 q3
  go_wp2_with fail
  refine (clone_of O4 b4 o4 l3 c4 z4 m3 hc4).mono ?_
  rintro e w5 ⟨rfl, r4, q4⟩
  have O5 := O4.trans q4
  replace r0 := r0.keep q4 (by simp)
  replace r1 := r1.keep q4 (by simp)
  replace r2 := r2.keep q4 (by simp)
  replace r3 := r3.keep q4 (by simp)
  clear O4 hc4 q4
  go_wp2_with fail
  refine (clone_of O5 b5 o5 l3 c5 z5 m3 hc5).mono ?_
  rintro e w6 ⟨rfl, r5, q5⟩
  have O6 := O5.trans q5
  have R1 : Rows3 w6 w''.heap.size w1.heap.size w2.heap.size l0 (fun i => (z0.getD i 0, z1.getD i 0, z2.getD i 0)) := ⟨r0.keep q5 (by simp), r1.keep q5 (by simp), r2.keep q5 (by simp)⟩
  have R2 : Rows3 w6 w3.heap.size w4.heap.size w5.heap.size l3 (fun i => (z3.getD i 0, z4.getD i 0, z5.getD i 0)) := ⟨r3.keep q5 (by simp), r4.keep q5 (by simp), r5⟩
  clear O5 hc5 q5 r0 r1 r2 r3 r4 r5
  go_wp2_with fail
  refine (zzRadixAfter29 _ _ _ _ _ _ l0 l3 _ _ _ _ _ _ _ _ w6 p0 m0 p3 m3 R1 R2).mono ?_
  rintro e w7 ⟨d0, d1, d2, rfl, S1, q7⟩
  have O7 := O6.trans q7
  replace R2 := R2.keep q7
  clear O6 q7 R1
  go_wp2_with fail
  refine (zzRadix24 _ _ _ l3 _ _ _ _ w7 p3 m3 R2).mono ?_
  rintro e w8 ⟨g0, g1, g2, rfl, S2, q8⟩
  have O8 := O7.trans q8
  replace S1 := S1.keep q8
  clear O7 q8 R2
  go_wp2_with fail
  refine (same26 d0 g0 l3 _ _ _ w8 m3 S1.1 S2.1).mono ?_
  rintro e w9 ⟨rfl, q9⟩
  have O9 := O8.trans q9
  replace S1 := S1.keep q9
  replace S2 := S2.keep q9
  clear O8 q9
  go_wp2_with fail
  refine (same26 d1 g1 l3 _ _ _ w9 m3 S1.2.1 S2.2.1).mono ?_
  rintro e w10 ⟨rfl, q10⟩
  have O10 := O9.trans q10
  replace S1 := S1.keep q10
  replace S2 := S2.keep q10
  clear O9 q10
  go_wp2_with fail
  refine (same26 d2 g2 l3 _ _ _ w10 m3 S1.2.2 S2.2.2).mono ?_
  rintro e w11 ⟨rfl, q11⟩
  have O11 := O10.trans q11
  clear O10 q11 S1 S2
  go_wp2_with fail
  go_ret
  exact ⟨rfl, O11.below (Nat.le_refl _) (by simp)⟩
end Go.Proofs.Qxb6602564a
