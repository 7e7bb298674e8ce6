/-
  THE LAW: hex4 against the digit table.
-/
import Derived.Test.Qxb6604237aHex
namespace Go.Proofs.Qxb6604237a
open Go.RowKit
set_option linter.unusedVariables false
theorem Try.info5 : (Try.prog.info? 5).map (fun i => (i.zero, i.size, i.bytes)) = some (some (.int .u8 0), 1, 1) := by kernel_rfl
theorem Try.size5 : (Try.prog.info? 5).map (·.size) = some 1 := by kernel_rfl

/-- A copy of a slice of bytes in a new row. -/
theorem copy_new (w : World) (n c : Nat) (x : Addr) (z : Nat → Int) (hc : ∀ i, i < n → w.cell? (x.add i) = some (.int .u8 (z i))) :
    ∃ w', (Builtin.copy_ #[22, 22] 3 #[.slice (some ⟨w.heap.size, 0, none⟩) n n, .slice (some x) n c]).run Try.prog (w.alloc (.cells (Array.replicate n (.int .u8 0)) 5)) = .ok (goInt n) w' ∧ Row w' w.heap.size 5 n (bytes z) ∧ Only [] w w' := by
  have hg : (w.alloc (.cells (Array.replicate n (.int .u8 0)) 5)).heap[w.heap.size]? = some (.cells (Array.replicate n (.int .u8 0)) 5 (0, 0)) := heap_alloc_new w _
  have hl : ((List.range n).map (bytes z)).length = Nat.min n n := by simp
  have hsrc : ∀ j v, ((List.range n).map (bytes z))[j]? = some v → (w.alloc (.cells (Array.replicate n (.int .u8 0)) 5)).cell? (x.add j) = some v := by
    intro j v hj
    have hjl : j < n := by have := (List.getElem?_eq_some_iff.1 hj).1; simpa using this
    simp [hjl] at hj
    rw [← hj]
    exact (Only.alloc [] w _).cell (by simp) (hc j hjl)
  have h := run_copy_row (P := Try.prog) (w.alloc (.cells (Array.replicate n (.int .u8 0)) 5)) 22 22 3 5 w.heap.size 0 n n x n c (Array.replicate n (.int .u8 0)) 5 ((List.range n).map (bytes z)) Try.underlying22 Try.size5 hg hl hsrc (by simp) (by intro v hv; simp at hv; obtain ⟨a, _, rfl⟩ := hv; rfl)
  simp only [List.length_map, List.length_range] at h
  refine ⟨_, h, ⟨_, setRow_heap _ _ _ _ _ _ hg, by simp, fun i hi => ?_⟩, ?_⟩
  · rw [List.getElem?_toArray, List.append_assoc, List.getElem?_append_right (by simp), List.getElem?_append_left (by simpa using hi)]
    simp [hi]
  · exact ⟨rfl, rfl, rfl, by simp, fun k hk _ => (setRow_other _ w.heap.size k _ (by omega)).trans (Below.heap_alloc w _ k hk)⟩

/-- The weight of digit k, and the sum of the digits before it. -/
def wt : Nat → Int
  | 1 => 4096
  | 2 => 256
  | 3 => 16
  | 4 => 1
  | _ => 0
def W (z : Nat → Int) : Nat → Int
  | 0 => 0
  | 1 => 0
  | k + 1 => W z k + dig (z k) * wt k
theorem W5 (z : Nat → Int) : W z 5 = V z 4 := by simp [W, V, wt]; omega
theorem W_bd (z : Nat → Int) : ∀ k, k ≤ 5 → 0 ≤ W z k ∧ W z k ≤ 65535
  | 0, _ => by simp [W]
  | 1, _ => by simp [W]
  | 2, _ => by have := dig_bd (z 1); simp [W, wt]; omega
  | 3, _ => by have := dig_bd (z 1); have := dig_bd (z 2); simp [W, wt]; omega
  | 4, _ => by have := dig_bd (z 1); have := dig_bd (z 2); have := dig_bd (z 3); simp [W, wt]; omega
  | 5, _ => by have := dig_bd (z 1); have := dig_bd (z 2); have := dig_bd (z 3); have := dig_bd (z 4); simp [W, wt]; omega
  | n + 6, h => by omega
/-- The bytes 1 .. k - 1 are digits. -/
def UpTo (z : Nat → Int) (k : Nat) : Prop := ∀ i, 1 ≤ i → i < k → isHex (z i) = true
theorem upTo_all {z : Nat → Int} (h : UpTo z 5) : hexB z = true := by
  unfold hexB; rw [h 1 (by omega) (by omega), h 2 (by omega) (by omega), h 3 (by omega) (by omega), h 4 (by omega) (by omega)]; rfl

set_option maxHeartbeats 1000000 in
theorem law_some (x : Addr) (n c : Nat) (z : Nat → Int) (w : World) (hl : n ≤ c) (hcm : (c : Int) ≤ 9223372036854775807) (hz : ∀ i, i < n → 0 ≤ z i ∧ z i ≤ 255) (hc : ∀ i, i < n → w.cell? (x.add i) = some (.int .u8 (z i))) :
    Calls Try.prog 5 #[.slice (some x) n c] w fun e w' => e = .returned (.bool true) ∧ Below w.heap.size w w' := by
  have hne := fun w => run_neq_slice_nil_any (P := Try.prog) w 22 5 (some x) n c 0 0 Try.underlying22
  go_enter Try.func5, Try.ntmps5
  go_wp2_with fail
  refine (zzBytes13 _ _ _ _ (by omega)).mono ?_
  rintro e w' ⟨⟨r, rfl, -⟩, hw⟩
  subst hw
  cases r
  · go_wp2_with fail
    go_ret
    exact ⟨rfl, Below.refl _ _⟩
  by_cases hbig : n ≤ 1048576
  · obtain ⟨w1, hcp, rw1, ho1⟩ := copy_new w' n c x z hc
    have hmk := fun w => run_make_list (P := Try.prog) 22 5 (.int .u8 0) (.int .u8 0) 1 1 n Try.underlying22 Try.info5 rfl (by omega) .i64 .i64 (by omega) (by omega) w
    simp only [Nat.mul_one] at hmk
    have hb1 := ho1.below (Nat.le_refl _) (by simp)
    clear hc ho1
    generalize hbn : w'.heap.size = b at *
    go_wp2_with fail
    clear hcp hmk hne
    by_cases h5 : n < 5
    · refine (zzHex14 (.bool true) n _ n 0 false w1 (hex4_short _ n n w1 h5)).mono ?_
      rintro e w2 ⟨rfl, hw2⟩
      obtain rfl := hw2.symm
      go_wp2_with fail
      go_ret
      exact ⟨rfl, by first | exact hb1 | (rw [hbn]; exact hb1)⟩
    · have c0 : w1.cell? ⟨b, 0, none⟩ = some (.int .u8 (z 0)) := rw1.cell (i := 0) (by omega)
      have hn0 : (0 : Int) < (n : Int) := by omega
      by_cases hu : z 0 = 117
      · refine (zzHex14 (.bool true) n _ n _ _ w1 (hex4_25 b n n z w1 (by omega) hbig (Nat.le_refl _) (by omega) hz rw1 hu)).mono ?_
        rintro e w2 ⟨rfl, hw2⟩
        obtain rfl := hw2.symm
        rw [hu] at c0
        clear hu
        go_wp2_with fail
        go_loop [6, 7, 8] (fun wa we i => ∃ (k : Nat), 1 ≤ k ∧ k ≤ 5 ∧ i = .int .i64 k ∧ wa = .int .i32 (W z k) ∧ we = .int .i32 (wt k) ∧ UpTo z k) (fun _ _ i => 5 - (intOf i).toNat)
        case atStart => exact ⟨1, by omega, by omega, rfl, rfl, rfl, fun i h1 h2 => by omega⟩
        case round =>
          obtain ⟨k, hk1, hk5, rfl, rfl, rfl, hU⟩ := hrel
          by_cases hlt : k < 5
          · clear c0
            rcases (show k = 1 ∨ k = 2 ∨ k = 3 ∨ k = 4 from by omega) with rfl | rfl | rfl | rfl
            · have ck : w1.cell? ⟨b, 1, none⟩ = some (.int .u8 (z 1)) := rw1.cell (i := 1) (by omega)
              have hcz := hz 1 (by omega)
              have hki : (1 : Int) < (n : Int) := by omega
              have hW := W_bd z 1 (by omega)
              have hdg := dig_bd (z 1)
              have ew : wt 1 = 4096 := rfl
              have HW : Hid (W z (1 + 1) = W z 1 + dig (z 1) * 4096) := by show W z 2 = _; simp [W, wt]
              by_cases hx : isHex (z 1) = true
              · have HU : Hid (UpTo z (1 + 1)) := fun i h1 h2 => by
                  by_cases e : i = 1
                  · subst e; exact hx
                  · exact hU i h1 (by omega)
                clear rw1 hz hU
                go_wp2_with fail
                refine (hexVal15 (z 1) hcz.1 hcz.2 _).mono ?_
                rintro e w2 ⟨rfl, hw2⟩
                obtain rfl := hw2.symm
                generalize hdv : dig (z 1) = dv at *
                generalize hWv : W z 1 = wv at *
                clear hdv hWv
                go_wp2_with fail
                go_round
                case rel => exact ⟨1 + 1, by omega, by omega, by go_num, by first | (rw [HW.out]; go_num) | rw [HW.out], rfl, HU.out⟩
                case measure => simp [intOf]
              · have hx' : isHex (z 1) = false := by simpa using hx
                have hB : hexB z = false := hex_not (k := 0) (by omega) hx'
                have hV0 : hexV z = 0 := by unfold hexV; rw [hB]; rfl
                clear rw1 hz hU hx
                go_wp2_with fail
                refine (hexVal15 (z 1) hcz.1 hcz.2 _).mono ?_
                rintro e w2 ⟨rfl, hw2⟩
                obtain rfl := hw2.symm
                go_wp2_with fail
                go_ret
                exact ⟨rfl, by first | exact hb1 | (rw [hbn]; exact hb1)⟩
            · have ck : w1.cell? ⟨b, 2, none⟩ = some (.int .u8 (z 2)) := rw1.cell (i := 2) (by omega)
              have hcz := hz 2 (by omega)
              have hki : (2 : Int) < (n : Int) := by omega
              have hW := W_bd z 2 (by omega)
              have hdg := dig_bd (z 2)
              have ew : wt 2 = 256 := rfl
              have HW : Hid (W z (2 + 1) = W z 2 + dig (z 2) * 256) := by show W z 3 = _; simp [W, wt]
              by_cases hx : isHex (z 2) = true
              · have HU : Hid (UpTo z (2 + 1)) := fun i h1 h2 => by
                  by_cases e : i = 2
                  · subst e; exact hx
                  · exact hU i h1 (by omega)
                clear rw1 hz hU
                go_wp2_with fail
                refine (hexVal15 (z 2) hcz.1 hcz.2 _).mono ?_
                rintro e w2 ⟨rfl, hw2⟩
                obtain rfl := hw2.symm
                generalize hdv : dig (z 2) = dv at *
                generalize hWv : W z 2 = wv at *
                clear hdv hWv
                go_wp2_with fail
                go_round
                case rel => exact ⟨2 + 1, by omega, by omega, by go_num, by first | (rw [HW.out]; go_num) | rw [HW.out], rfl, HU.out⟩
                case measure => simp [intOf]
              · have hx' : isHex (z 2) = false := by simpa using hx
                have hB : hexB z = false := hex_not (k := 1) (by omega) hx'
                have hV0 : hexV z = 0 := by unfold hexV; rw [hB]; rfl
                clear rw1 hz hU hx
                go_wp2_with fail
                refine (hexVal15 (z 2) hcz.1 hcz.2 _).mono ?_
                rintro e w2 ⟨rfl, hw2⟩
                obtain rfl := hw2.symm
                go_wp2_with fail
                go_ret
                exact ⟨rfl, by first | exact hb1 | (rw [hbn]; exact hb1)⟩
            · have ck : w1.cell? ⟨b, 3, none⟩ = some (.int .u8 (z 3)) := rw1.cell (i := 3) (by omega)
              have hcz := hz 3 (by omega)
              have hki : (3 : Int) < (n : Int) := by omega
              have hW := W_bd z 3 (by omega)
              have hdg := dig_bd (z 3)
              have ew : wt 3 = 16 := rfl
              have HW : Hid (W z (3 + 1) = W z 3 + dig (z 3) * 16) := by show W z 4 = _; simp [W, wt]
              by_cases hx : isHex (z 3) = true
              · have HU : Hid (UpTo z (3 + 1)) := fun i h1 h2 => by
                  by_cases e : i = 3
                  · subst e; exact hx
                  · exact hU i h1 (by omega)
                clear rw1 hz hU
                go_wp2_with fail
                refine (hexVal15 (z 3) hcz.1 hcz.2 _).mono ?_
                rintro e w2 ⟨rfl, hw2⟩
                obtain rfl := hw2.symm
                generalize hdv : dig (z 3) = dv at *
                generalize hWv : W z 3 = wv at *
                clear hdv hWv
                go_wp2_with fail
                go_round
                case rel => exact ⟨3 + 1, by omega, by omega, by go_num, by first | (rw [HW.out]; go_num) | rw [HW.out], rfl, HU.out⟩
                case measure => simp [intOf]
              · have hx' : isHex (z 3) = false := by simpa using hx
                have hB : hexB z = false := hex_not (k := 2) (by omega) hx'
                have hV0 : hexV z = 0 := by unfold hexV; rw [hB]; rfl
                clear rw1 hz hU hx
                go_wp2_with fail
                refine (hexVal15 (z 3) hcz.1 hcz.2 _).mono ?_
                rintro e w2 ⟨rfl, hw2⟩
                obtain rfl := hw2.symm
                go_wp2_with fail
                go_ret
                exact ⟨rfl, by first | exact hb1 | (rw [hbn]; exact hb1)⟩
            · have ck : w1.cell? ⟨b, 4, none⟩ = some (.int .u8 (z 4)) := rw1.cell (i := 4) (by omega)
              have hcz := hz 4 (by omega)
              have hki : (4 : Int) < (n : Int) := by omega
              have hW := W_bd z 4 (by omega)
              have hdg := dig_bd (z 4)
              have ew : wt 4 = 1 := rfl
              have HW : Hid (W z (4 + 1) = W z 4 + dig (z 4) * 1) := by show W z 5 = _; simp [W, wt]
              by_cases hx : isHex (z 4) = true
              · have HU : Hid (UpTo z (4 + 1)) := fun i h1 h2 => by
                  by_cases e : i = 4
                  · subst e; exact hx
                  · exact hU i h1 (by omega)
                clear rw1 hz hU
                go_wp2_with fail
                refine (hexVal15 (z 4) hcz.1 hcz.2 _).mono ?_
                rintro e w2 ⟨rfl, hw2⟩
                obtain rfl := hw2.symm
                generalize hdv : dig (z 4) = dv at *
                generalize hWv : W z 4 = wv at *
                clear hdv hWv
                go_wp2_with fail
                go_round
                case rel => exact ⟨4 + 1, by omega, by omega, by go_num, by first | (rw [HW.out]; go_num) | rw [HW.out], rfl, HU.out⟩
                case measure => simp [intOf]
              · have hx' : isHex (z 4) = false := by simpa using hx
                have hB : hexB z = false := hex_not (k := 3) (by omega) hx'
                have hV0 : hexV z = 0 := by unfold hexV; rw [hB]; rfl
                clear rw1 hz hU hx
                go_wp2_with fail
                refine (hexVal15 (z 4) hcz.1 hcz.2 _).mono ?_
                rintro e w2 ⟨rfl, hw2⟩
                obtain rfl := hw2.symm
                go_wp2_with fail
                go_ret
                exact ⟨rfl, by first | exact hb1 | (rw [hbn]; exact hb1)⟩
          · have ek : k = 5 := by omega
            subst ek
            have hB : hexB z = true := upTo_all hU
            have hV0 : hexV z = W z 5 := by unfold hexV; rw [hB, W5]; rfl
            clear rw1 hz hU c0
            go_wp2_with fail
            go_ret
            exact ⟨rfl, by first | exact hb1 | (rw [hbn]; exact hb1)⟩
      · refine (zzHex14 (.bool true) n _ n 0 false w1 (hex4_other b n n (z 0) w1 (by omega) c0 hu)).mono ?_
        rintro e w2 ⟨rfl, hw2⟩
        obtain rfl := hw2.symm
        have t : (z 0 != 117) = true := by simpa using hu
        clear hu
        go_wp2_with fail
        go_ret
        exact ⟨rfl, by first | exact hb1 | (rw [hbn]; exact hb1)⟩
  · clear hc
    go_wp2_with fail
    go_ret
    exact ⟨rfl, Below.refl _ _⟩

theorem law_nil (w : World) :
    Calls Try.prog 5 #[.slice none 0 0] w fun e w' => e = .returned (.bool true) ∧ Below w.heap.size w w' := by
  have hne := fun w => run_neq_slice_nil_any (P := Try.prog) w 22 5 none 0 0 0 0 Try.underlying22
  go_enter Try.func5, Try.ntmps5
  go_wp2_with fail
  refine (zzBytes13 _ _ _ _ (by omega)).mono ?_
  rintro e w' ⟨⟨r, rfl, -⟩, hw⟩
  subst hw
  cases r
  · go_wp2_with fail
    go_ret
    exact ⟨rfl, Below.refl _ _⟩
  go_wp2_with fail
  refine (zzHex14 (.bool true) 0 _ 0 0 false _ (hex4_short _ 0 0 _ (by omega))).mono ?_
  rintro e w2 ⟨rfl, hw2⟩
  obtain rfl := hw2.symm
  go_wp2_with fail
  go_ret
  exact ⟨rfl, Below.refl _ _⟩
end Go.Proofs.Qxb6604237a
