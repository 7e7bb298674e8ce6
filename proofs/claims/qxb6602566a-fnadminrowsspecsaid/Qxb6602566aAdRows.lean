/-
  THE WALK OF broker.adminRows (and of ZZAdminRows): the rows, as one list of cells.
-/
import Derived.Test.Qxb6602566aAdStats
import Derived.Laws.AppendOwn
namespace Go.Proofs.Qxb6602566a
open Go.RowKit
set_option linter.unusedVariables false

/-- The row of a topic without a channel; the row of channel j of topic i. -/
def emptyRow (m : A) (i : Nat) : List Value := [.string (m.name i), .string { data := #[] }, .bool (m.pau i), .bool false, .int .i64 (m.num i 0), .int .i64 0, .int .i64 (m.num i 1), .int .i64 0]
def chanRow (m : A) (i j : Nat) : List Value := [.string (m.name i), .string (m.cname i j), .bool (m.pau i), .bool (m.cpau i j), .int .i64 (m.cnum i j 0), .int .i64 (m.cnum i j 1), .int .i64 (m.cnum i j 2), .int .i64 (m.cnum i j 6)]
def chanRows (m : A) (i : Nat) : Nat → List Value
  | 0 => []
  | j + 1 => chanRows m i j ++ chanRow m i j
def topRows (m : A) (i : Nat) : List Value := if m.m6 i = 0 then emptyRow m i else chanRows m i (m.m6 i)
def allRows (m : A) : Nat → List Value
  | 0 => []
  | k + 1 => allRows m k ++ topRows m k
/-- How many rows the first k topics give. -/
def st (m : A) : Nat → Nat
  | 0 => 0
  | k + 1 => st m k + (if m.m6 k = 0 then 1 else m.m6 k)
theorem chanRows_length (m : A) (i j : Nat) : (chanRows m i j).length = j * 8 := by
  induction j with
  | zero => rfl
  | succ j ih => show (chanRows m i j ++ chanRow m i j).length = _; rw [List.length_append, ih]; simp [chanRow]; omega
theorem st_le (m : A) (k : Nat) : st m k ≤ k + sum6 m k := by
  induction k with
  | zero => simp [st]
  | succ k ih => show st m k + _ ≤ k + 1 + (sum6 m k + m.m6 k); split <;> omega

theorem sum6_mono (m : A) {i k : Nat} (h : i ≤ k) : sum6 m i ≤ sum6 m k := by
  induction k with
  | zero => obtain rfl : i = 0 := by omega
            exact Nat.le_refl _
  | succ k ih =>
    by_cases e : i = k + 1
    · subst e; exact Nat.le_refl _
    · exact Nat.le_trans (ih (by omega)) (Nat.le_add_right _ _)
theorem st_le' {m : A} (hS : Small m) (hA : Aligned m) {k : Nat} (hk : k ≤ m.n3) : st m k ≤ 131072 := by
  have h1 := st_le m k
  have h2 : sum6 m k ≤ sum6 m m.n6 := sum6_mono m (by have := hA.e6; omega)
  have := hS.su
  have := hS.s3
  omega
def z40 : Value := .agg #[.string ByteArray.empty, .string ByteArray.empty, .bool false, .bool false, .int .i64 0, .int .i64 0, .int .i64 0, .int .i64 0]
theorem Try.info40 : (Try.prog.info? 40).map (fun i => (i.zero, i.size, i.bytes)) = some (some z40, 8, 72) := by kernel_rfl

theorem news_at {w : World} {n : Nat} (hn : w.heap.size = n) (xs : List Value) (T : TypeId) : ∀ j u, xs[j]? = some u → (w.alloc (.cells xs.toArray T)).cell? ((⟨n, 0, none⟩ : Addr).add j) = some u := by
  subst hn
  intro j u hu
  have hadd : (⟨w.heap.size, 0, none⟩ : Addr).add j = ⟨w.heap.size, j, none⟩ := by unfold Addr.add; split <;> simp_all
  rw [hadd, cell_of_row _ _ j xs.toArray T (0, 0) (heap_alloc_new w _)]
  simpa using hu
theorem emptyRow_one (m : A) (k : Nat) : ∀ u ∈ emptyRow m k, u.oneCell' = true := by
  intro u hu
  simp [emptyRow] at hu
  rcases hu with rfl | rfl | rfl | rfl | rfl | rfl | rfl | rfl <;> rfl
theorem chanRow_one (m : A) (k j : Nat) : ∀ u ∈ chanRow m k j, u.oneCell' = true := by
  intro u hu
  simp [chanRow] at hu
  rcases hu with rfl | rfl | rfl | rfl | rfl | rfl | rfl | rfl <;> rfl
/-- What an append leaves of the rest. -/
theorem Only.grown {w0 w w' : World} {v : Value} {e : TypeId} {size n : Nat} {xs : List Value} (O : Only [] w0 w) (hW : w.ownsRow w0.heap.size e size v n xs) (hg : w.grownBy w' v.ownBlock) : Only [] w0 w' :=
  ⟨hg.os.trans O.os, hg.tape.trans O.tape, hg.output.trans O.output, Nat.le_trans O.size hg.size, fun i hi _ => by
    refine (hg.block i (Nat.lt_of_lt_of_le hi O.size) ?_).trans (O.block i hi (by simp))
    intro h
    have := (hW.lt i h.symm).1
    omega⟩

/-- An append into rows of another type leaves a row as it was. -/
theorem Row.grown {w w' : World} {v : Value} {e T : TypeId} {base size n k p : Nat} {xs : List Value} {f : Nat → Value} (r : Row w p T k f) (hW : w.ownsRow base e size v n xs) (hT : T ≠ e) (hg : w.grownBy w' v.ownBlock) : Row w' p T k f := by
  have hl := r.lt
  obtain ⟨ys, hy, hn, hf⟩ := r
  refine ⟨ys, (hg.block p hl ?_).trans hy, hn, hf⟩
  intro h
  rcases hW.2 with ⟨rfl, _⟩ | ⟨g, cap, cur, rfl, _, hgg, _⟩
  · simp [Value.ownBlock] at h
  · simp [Value.ownBlock] at h
    subst h
    rw [hy] at hgg
    simp at hgg
    exact hT hgg.2
theorem newTop {m : A} {k : Nat} {v : Nat → Value} {ca : Option Addr} (hv : v k = .slice ca (m.m6 k) (m.m6 k)) (w : World) : Row (w.alloc (.cells #[.string (m.name k), .slice ca (m.m6 k) (m.m6 k), .int .i64 (m.num k 0), .int .i64 (m.num k 1), .int .i64 (m.num k 2), .int .i64 (m.num k 3), .bool (m.pau k)] 73)) w.heap.size 73 7 (tcell m v k) := by
  refine (Row.made w _ 73).ext (fun i hi => ?_)
  have hi : i < 7 := hi
  obtain rfl | rfl | rfl | rfl | rfl | rfl | rfl : i = 0 ∨ i = 1 ∨ i = 2 ∨ i = 3 ∨ i = 4 ∨ i = 5 ∨ i = 6 := by omega
  · rfl
  · exact hv.symm
  all_goals rfl

/-- What adminRows hands back. -/
def RowsP (m : A) (w : World) (e : Ending) (w' : World) : Prop :=
  ∃ r, e = .returned r ∧ w'.ownsRow w.heap.size 40 8 r (st m m.n3) (allRows m m.n3) ∧ Only [] w w'

set_option maxRecDepth 100000 in
set_option maxHeartbeats 4000000 in
theorem adminRows32 (m : A) (tp : Option Addr) (v : Nat → Value) (w : World) (hS : Small m) (hA : Aligned m) (hT : Topics m w tp v) :
    Calls Try.prog 32 #[.agg #[.string m.ver, .string m.hea, .int .i64 m.st, .slice tp m.n3 m.n3]] w fun e w' => RowsP m w e w' := by
  have q3 := hS.s3
  obtain ⟨hT1, bc, hT2⟩ := hT
  obtain ⟨i40, hi, hz0, hz1, hz2⟩ := info_parts Try.info40
  go_enter Try.func32, Try.ntmps32
  go_wp2
  have O0 : Only [] w (w.alloc (.cells #[.string m.ver, .string m.hea, .int .i64 m.st, .slice tp m.n3 m.n3] 35)) := Only.alloc _ _ _
  have W0 := World.ownsRow_nil (w.alloc (.cells #[.string m.ver, .string m.hea, .int .i64 m.st, .slice tp m.n3 m.n3] 35)) w.heap.size 40 8
  go_loopw [3, 11] (fun r i wr => ∃ (k : Nat), k ≤ m.n3 ∧ i = .int .i64 k ∧ wr.ownsRow w.heap.size 40 8 r (st m k) (allRows m k) ∧ Only [] w wr) (fun _ i _ => m.n3 - (intOf i).toNat)
  case atStart => exact ⟨0, by omega, rfl, W0, O0⟩
  case round =>
    clear O0 W0
    obtain ⟨k, hk, rfl, hW, O⟩ := hrel
    by_cases hlt : k < m.n3
    · obtain ⟨b, g, rfl, rb, tt⟩ := hT1 (by omega)
      obtain ⟨ca, hv, hc⟩ := hT2 k hlt
      have rbr := rb.keep O (by simp)
      have tc : ∀ i, i < 7 → wr.cell? ⟨b, k * 7 + i, none⟩ = some (tcell m v k i) := fun i hi => by
        rw [rbr.cell (by omega), tt _ (by omega), show (k * 7 + i) / 7 = k by omega, show (k * 7 + i) % 7 = i by omega]
      have t0 : wr.cell? ⟨b, k * 7, none⟩ = some (.string (m.name k)) := tc 0 (by omega)
      have t1 : wr.cell? ⟨b, k * 7 + 1, none⟩ = some (.slice ca (m.m6 k) (m.m6 k)) := (tc 1 (by omega)).trans (by show some (v k) = _; rw [hv])
      have t2 : wr.cell? ⟨b, k * 7 + 2, none⟩ = some (.int .i64 (m.num k 0)) := tc 2 (by omega)
      have t3 : wr.cell? ⟨b, k * 7 + 3, none⟩ = some (.int .i64 (m.num k 1)) := tc 3 (by omega)
      have t4 : wr.cell? ⟨b, k * 7 + 4, none⟩ = some (.int .i64 (m.num k 2)) := tc 4 (by omega)
      have t5 : wr.cell? ⟨b, k * 7 + 5, none⟩ = some (.int .i64 (m.num k 3)) := tc 5 (by omega)
      have t6 : wr.cell? ⟨b, k * 7 + 6, none⟩ = some (.bool (m.pau k)) := tc 6 (by omega)
      have hix : ∀ w0 : World, (Instr.indexAt 33 (.slice (some ⟨b, 0, none⟩) m.n3 m.n3) (.int .i64 (k : Int))).run Try.prog w0 = .ok (.pointer (some ⟨b, k * 7, none⟩)) w0 := fun w0 => by
        have h := run_at (P := Try.prog) 33 73 (some ⟨b, 0, none⟩) m.n3 m.n3 b 0 7 .i64 k Try.underlying33 Try.size73 rfl hlt w0
        rwa [Nat.zero_add] at h
      have HV : Hid (v k = .slice ca (m.m6 k) (m.m6 k)) := hv
      clear tc rbr hT1 hv
      by_cases h6 : m.m6 k = 0
      · have hz : ((m.m6 k : Int) == 0) = true := by simp; omega
        have H6 : Hid (m.m6 k = 0) := h6
        clear h6
        have W1 := fun o o' => (hW.alloc o).alloc o'
        have N1 := fun o => news_at (w := wr.alloc o) (n := wr.heap.size + 1) (by simp) (emptyRow m k) 40
        have b1 := st_le' hS hA hk
        go_wp2_with (at_builtin; refine wpList_append_own _ rfl (.tmp 19) (.tmp 29) 31 rfl w.heap.size 40 i40 z40 8 72 Try.underlying31 hi hz0 hz1 hz2 rfl (by omega) _ (st m k) (allRows m k) rfl (W1 _ _) ⟨wr.heap.size + 1, 0, none⟩ 1 1 (emptyRow m k) rfl rfl (N1 _) (emptyRow_one m k) (by simp only [maxLen]; omega) (by omega) (by have := O.size; simp; omega) ?_)
        intro v' w1 hW1 hg1 _
        have O1 : Only [] w w1 := Only.grown ((O.trans (Only.alloc _ _ _)).trans (Only.alloc _ _ _)) (W1 _ _) hg1
        have rt1 := ((newTop HV.out wr).alloc _).grown (W1 _ _) (by decide) hg1
        have c1 : w1.cell? ⟨wr.heap.size, 1, none⟩ = some (.slice ca (m.m6 k) (m.m6 k)) := (rt1.cell (i := 1) (by omega)).trans (by show some (v k) = _; rw [HV.out])
        have HN : Hid (w1.ownsRow w.heap.size 40 8 v' (st m (k + 1)) (allRows m (k + 1)) ∧ Only [] w w1) := by
          refine ⟨?_, O1⟩
          have e1 : st m (k + 1) = st m k + 1 := by show st m k + _ = _; rw [if_pos H6.out]
          have e2 : allRows m (k + 1) = allRows m k ++ emptyRow m k := by show allRows m k ++ topRows m k = _; rw [topRows, if_pos H6.out]
          rw [e1, e2]; exact hW1
        clear W1 N1 hW1 hg1 rt1 O1 hW O rb
        go_wp2
        obtain ⟨wo, rfl⟩ : ∃ wo : World, wo = wr := ⟨_, rfl⟩
        go_loopw [3, 34] (fun r i wj => r = v' ∧ i = .int .i64 0 ∧ wj = w1) (fun _ _ _ => 0)
        case atStart => exact ⟨rfl, rfl, rfl⟩
        case round =>
          obtain ⟨rfl, rfl, rfl⟩ := hrel
          have hlt0 : ¬ (0 : Int) < (m.m6 k : Int) := by have := H6.out; omega
          go_wp2
          go_roundw
          case rel => exact ⟨k + 1, by omega, by go_num, HN.out⟩
          case measure => simp [intOf]; omega
      · have hz : ((m.m6 k : Int) == 0) = false := by simp; omega
        obtain ⟨c, hca, _, rc⟩ := hc (by omega)
        subst hca
        have s6 : m.m6 k ≤ 65536 := Small.each hS (by have := hA.e6; omega)
        have rt0 := newTop HV.out wr
        have O1 := O.trans (Only.alloc [] wr (.cells #[.string (m.name k), .slice (some ⟨c, 0, none⟩) (m.m6 k) (m.m6 k), .int .i64 (m.num k 0), .int .i64 (m.num k 1), .int .i64 (m.num k 2), .int .i64 (m.num k 3), .bool (m.pau k)] 73))
        have W0 := hW.alloc (.cells #[.string (m.name k), .slice (some ⟨c, 0, none⟩) (m.m6 k) (m.m6 k), .int .i64 (m.num k 0), .int .i64 (m.num k 1), .int .i64 (m.num k 2), .int .i64 (m.num k 3), .bool (m.pau k)] 73)
        go_wp2
        obtain ⟨wo, rfl⟩ : ∃ wo : World, wo = wr := ⟨_, rfl⟩
        go_loopw [3, 34] (fun r i wj => ∃ (j : Nat), j ≤ m.m6 k ∧ i = .int .i64 j ∧ wj.ownsRow w.heap.size 40 8 r (st m k + j) (allRows m k ++ chanRows m k j) ∧ Row wj wo.heap.size 73 7 (tcell m v k) ∧ Only [] w wj) (fun _ i _ => m.m6 k - (intOf i).toNat)
        case atStart => exact ⟨0, by omega, rfl, by simpa [chanRows] using W0, rt0, O1⟩
        case round =>
          clear W0 rt0 O1
          obtain ⟨wj, rfl⟩ : ∃ wj : World, wj = wr := ⟨_, rfl⟩
          obtain ⟨j, hj, rfl, hWj, hp, Oj⟩ := hrel
          have rcj := rc.keep Oj (by simp)
          by_cases hlt2 : j < m.m6 k
          · have cc : ∀ i, i < 10 → wj.cell? ⟨c, j * 10 + i, none⟩ = some (ccell m k j i) := fun i hi => by
              rw [rcj.cell (by omega)]; simp only [show (j * 10 + i) / 10 = j by omega, show (j * 10 + i) % 10 = i by omega]
            have c0 : wj.cell? ⟨c, j * 10, none⟩ = some (.string (m.cname k j)) := cc 0 (by omega)
            have c1 : wj.cell? ⟨c, j * 10 + 1, none⟩ = some (.int .i64 (m.cnum k j 0)) := cc 1 (by omega)
            have c2 : wj.cell? ⟨c, j * 10 + 2, none⟩ = some (.int .i64 (m.cnum k j 1)) := cc 2 (by omega)
            have c3 : wj.cell? ⟨c, j * 10 + 3, none⟩ = some (.int .i64 (m.cnum k j 2)) := cc 3 (by omega)
            have c4 : wj.cell? ⟨c, j * 10 + 4, none⟩ = some (.int .i64 (m.cnum k j 3)) := cc 4 (by omega)
            have c5 : wj.cell? ⟨c, j * 10 + 5, none⟩ = some (.int .i64 (m.cnum k j 4)) := cc 5 (by omega)
            have c6 : wj.cell? ⟨c, j * 10 + 6, none⟩ = some (.int .i64 (m.cnum k j 5)) := cc 6 (by omega)
            have c7 : wj.cell? ⟨c, j * 10 + 7, none⟩ = some (.int .i64 (m.cnum k j 6)) := cc 7 (by omega)
            have c8 : wj.cell? ⟨c, j * 10 + 8, none⟩ = some (.slice none 0 0) := cc 8 (by omega)
            have c9 : wj.cell? ⟨c, j * 10 + 9, none⟩ = some (.bool (m.cpau k j)) := cc 9 (by omega)
            have x0 : wj.cell? ⟨wo.heap.size, 0, none⟩ = some (.string (m.name k)) := hp.cell (i := 0) (by omega)
            have x6 : wj.cell? ⟨wo.heap.size, 6, none⟩ = some (.bool (m.pau k)) := hp.cell (i := 6) (by omega)
            have hix2 : ∀ w0 : World, (Instr.indexAt 71 (.slice (some ⟨c, 0, none⟩) (m.m6 k) (m.m6 k)) (.int .i64 (j : Int))).run Try.prog w0 = .ok (.pointer (some ⟨c, j * 10, none⟩)) w0 := fun w0 => by
              have h := run_at (P := Try.prog) 71 76 (some ⟨c, 0, none⟩) (m.m6 k) (m.m6 k) c 0 10 .i64 j Try.underlying71 Try.size76 rfl hlt2 w0
              rwa [Nat.zero_add] at h
            have W1 := fun o o' => (hWj.alloc o).alloc o'
            have N1 := fun o => news_at (w := wj.alloc o) (n := wj.heap.size + 1) (by simp) (chanRow m k j) 40
            have b1 := st_le' hS hA hk
            have x0a := fun o => (Only.alloc [] wj o).cell (by simp) x0
            have x6a := fun o => (Only.alloc [] wj o).cell (by simp) x6
            have R1 := fun o o' => (hp.alloc o).alloc o'
            have OO := fun o o' => (Oj.trans (Only.alloc [] wj o)).trans (Only.alloc [] _ o')
            clear cc rcj hp Oj hWj hix t0 t1 t2 t3 t4 t5 t6 hW O rb rc hT2
            go_wp2_with (at_builtin; refine wpList_append_own _ rfl (.tmp 38) (.tmp 56) 31 rfl w.heap.size 40 i40 z40 8 72 Try.underlying31 hi hz0 hz1 hz2 rfl (by omega) _ (st m k + j) (allRows m k ++ chanRows m k j) rfl (W1 _ _) ⟨wj.heap.size + 1, 0, none⟩ 1 1 (chanRow m k j) rfl rfl (N1 _) (chanRow_one m k j) (by simp only [maxLen]; omega) (by omega) (by have := (OO (.cells #[] 0) (.cells #[] 0)).size; simp at this; simp; omega) ?_)
            intro v' w1 hW1 hg1 _
            have O1 : Only [] w w1 := Only.grown (OO _ _) (W1 _ _) hg1
            have rt1 := (R1 _ _).grown (W1 _ _) (by decide) hg1
            have HN : Hid (w1.ownsRow w.heap.size 40 8 v' (st m k + (j + 1)) (allRows m k ++ chanRows m k (j + 1)) ∧ Row w1 wo.heap.size 73 7 (tcell m v k) ∧ Only [] w w1) := by
              refine ⟨?_, rt1, O1⟩
              show w1.ownsRow w.heap.size 40 8 v' (st m k + (j + 1)) (allRows m k ++ (chanRows m k j ++ chanRow m k j))
              exact hW1
            clear W1 N1 hW1 hg1 rt1 O1 R1 OO x0a x6a
            go_wp2
            go_roundw
            case rel => exact ⟨j + 1, by omega, by go_num, HN.out⟩
            case measure => simp [intOf]; omega
          · have hjk : j = m.m6 k := by omega
            subst hjk
            have e1 : st m (k + 1) = st m k + m.m6 k := by show st m k + _ = _; rw [if_neg h6]
            have e2 : allRows m (k + 1) = allRows m k ++ chanRows m k (m.m6 k) := by show allRows m k ++ topRows m k = _; rw [topRows, if_neg h6]
            rw [← e1, ← e2] at hWj
            have HN : Hid (_ ∧ Only [] w wj) := ⟨hWj, Oj⟩
            clear e1 e2
            clear hWj hp Oj rcj hW O rb rc hT2
            go_wp2
            go_roundw
            case rel => exact ⟨k + 1, by omega, by go_num, HN.out⟩
            case measure => simp [intOf]; omega
    · have hkn : k = m.n3 := by omega
      subst hkn
      have FIN : Hid (RowsP m w (.returned u3) wr) := ⟨u3, rfl, hW, O⟩
      clear hW O hT1 hT2
      go_wp2
      go_ret
      exact FIN.out

def RowsQ (m : A) (w : World) (e : Ending) (w' : World) : Prop :=
  ∃ r base, e = .returned r ∧ w.heap.size ≤ base ∧ w'.ownsRow base 40 8 r (st m m.n3) (allRows m m.n3) ∧ Only [] w w'
theorem Topics.keep {m : A} {w w' : World} {tp : Option Addr} {v : Nat → Value} (h : Topics m w tp v) (O : Only [] w w') : Topics m w' tp v := by
  obtain ⟨h1, b, h2⟩ := h
  refine ⟨fun h0 => ?_, b, fun i hi => ?_⟩
  · obtain ⟨c, g, e, r, t⟩ := h1 h0
    exact ⟨c, g, e, r.keep O (by simp), t⟩
  · obtain ⟨ca, e1, e2⟩ := h2 i hi
    refine ⟨ca, e1, fun h0 => ?_⟩
    obtain ⟨c, f1, f2, f3⟩ := e2 h0
    exact ⟨c, f1, f2, f3.keep O (by simp)⟩
set_option maxHeartbeats 1000000 in
theorem zzAdminRows12 (m : A) (tp : Option Addr) (v : Nat → Value) (w : World) (hS : Small m) (hA : Aligned m) (hT : Topics m w tp v) :
    Calls Try.prog 12 #[.agg #[.string m.ver, .string m.hea, .int .i64 m.st, .slice tp m.n3 m.n3]] w fun e w' => RowsQ m w e w' := by
  go_enter Try.func12, Try.ntmps12
  go_wp2_with fail
  have O0 : Only [] w (w.alloc (.cells #[.string m.ver, .string m.hea, .int .i64 m.st, .slice tp m.n3 m.n3] 35)) := Only.alloc _ _ _
  refine (adminRows32 m tp v _ hS hA (hT.keep O0)).mono ?_
  rintro e w' ⟨r, rfl, hW, O⟩
  have FIN : Hid (RowsQ m w (.returned r) w') := ⟨r, _, rfl, O0.size, hW, O0.trans O⟩
  clear hW O O0 hT
  go_wp2
  go_ret
  exact FIN.out
end Go.Proofs.Qxb6602566a
