/-
  THE WALK OF (*dealSorter).radix: whatever its buffer held, the keys end as 'sortK' has them.
-/
import Derived.Test.Qxb6602564aRadixDefs
import Derived.Deep.CutRange
import Derived.Laws.CopyOwn
namespace Go.Proofs.Qxb6602564a
open Go.RowKit Go.Sort
set_option linter.unusedVariables false

theorem Try.size62 : (Try.prog.info? 62).map (·.size) = some 3 := by kernel_rfl
/-- The sorter's buffer: nil, or a row of its own. B: its block, if it has one. -/
def BufOk (w : World) (sb : Nat) (v : Value) (B : List Nat) : Prop :=
  (v = .slice none 0 0 ∧ B = []) ∨ ∃ bb bl bc g, v = .slice (some ⟨bb, 0, none⟩) bl bc ∧ B = [bb] ∧ bc ≤ 9223372036854775807 ∧ Row w bb 62 (bc * 3) g ∧ bb ≠ sb

/-- What radix leaves. -/
def Sorted (w w' : World) (sb kb n : Nat) (B : List Nat) (x : Nat → Key) : Prop :=
  ∃ v' B', Row w' sb 48 1 (fun _ => v') ∧ BufOk w' sb v' B' ∧ (∀ b, b ∈ B' → b ∈ B ∨ w.heap.size ≤ b) ∧ Row w' kb 62 (n * 3) (keyv (sortK n 3 0 x)) ∧ Only (kb :: sb :: B) w w'

/-- How it stands behind the buffer's making. -/
def Ready (w wc : World) (sb kb n : Nat) (B : List Nat) (x : Nat → Key) (bb bl bc : Nat) : Prop :=
  Row wc sb 48 1 (fun _ => .slice (some ⟨bb, 0, none⟩) bl bc) ∧ n ≤ bc ∧ bc ≤ 9223372036854775807 ∧ (∃ g, Row wc bb 62 (bc * 3) g) ∧ bb ≠ sb ∧ bb ≠ kb ∧ Row wc kb 62 (n * 3) (keyv x) ∧ Only (kb :: sb :: B) w wc ∧ (bb ∈ B ∨ w.heap.size ≤ bb)

/-- The head of the loop over the fields: f fields are done. -/
def AtField (n kb bb bc : Nat) (wc wr : World) (x : Nat → Key) (f fb tb cf ct g : Nat) (y : Nat → Key) : Prop :=
  f + g = 3 ∧ sortK n g f y = sortK n 3 0 x ∧ ((fb = kb ∧ tb = bb) ∨ (fb = bb ∧ tb = kb)) ∧ Row wr fb 62 (n * 3) (keyv y) ∧ (∃ gt, Row wr tb 62 (n * 3) gt) ∧ (∃ gb, Row wr bb 62 (bc * 3) gb) ∧ Only [kb, bb] wc wr
/-- The head of the loop over the bytes of one field: the shift is S, j passes may be left. -/
def AtByte (n f kb bb bc : Nat) (lo D : Int) (wc wr : World) (tgt : Nat → Key) (S j fb tb : Nat) (y : Nat → Key) : Prop :=
  S + 8 * j = 64 ∧ runs n f lo D j S y = tgt ∧ ((fb = kb ∧ tb = bb) ∨ (fb = bb ∧ tb = kb)) ∧ Row wr fb 62 (n * 3) (keyv y) ∧ (∃ gt, Row wr tb 62 (n * 3) gt) ∧ (∃ gb, Row wr bb 62 (bc * 3) gb) ∧ Only [kb, bb] wc wr

/-- One pass more. -/
theorem byte_next {n f kb bb bc S j fb tb ab : Nat} {lo D : Int} {wc wr3 wq wr : World} {tgt z : Nat → Key} (hB : AtByte n f kb bb bc lo (wrap64 D) wc wr3 tgt S j fb tb z) (ht : 0 < wrap64 D / 2 ^ S)
    (hab : ab = wr3.heap.size) (ho5 : Only [] wr3 wq) (ho6 : Only [ab, tb] wq wr) (rt : Row wr tb 62 (n * 3) (keyv (nxt n f lo S z))) (rb : ∃ gb, Row wr bb 62 (bc * 3) gb) (hne : bb ≠ kb) :
    S < 64 ∧ ∃ j', AtByte n f kb bb bc lo (wrap64 D) wc wr tgt (S + 8) j' tb fb (nxt n f lo S z) := by
  obtain ⟨hS, hr, hft, rf, _, _, ho⟩ := hB
  cases j with
  | zero =>
    have e : S = 64 := by omega
    subst e
    exact absurd ht (shr_done D)
  | succ j =>
    have hlt := rf.lt
    refine ⟨by omega, j, by omega, ?_, ?_, rt, ⟨_, (rf.keep ho5 (by simp)).keep ho6 ?_⟩, rb, ?_⟩
    · rw [← hr]; unfold runs; rw [if_pos (show 0 < shrv (wrap64 D) S from ht)]
      cases j <;> rfl
    · rcases hft with ⟨e1, e2⟩ | ⟨e1, e2⟩
      · exact .inr ⟨e2, e1⟩
      · exact .inl ⟨e2, e1⟩
    · simp only [List.mem_cons, List.not_mem_nil, or_false, not_or]
      refine ⟨by omega, ?_⟩
      rcases hft with ⟨e1, e2⟩ | ⟨e1, e2⟩ <;> omega
    · refine (ho.trans (ho5.mono (by simp))).trans' ho6 (fun i hi => ?_)
      have hsz := ho.size
      simp only [List.mem_cons, List.not_mem_nil, or_false] at hi ⊢
      rcases hi with e | e
      · exact .inr (by omega)
      · rcases hft with ⟨e1, e2⟩ | ⟨e1, e2⟩
        · exact .inl (.inr (by omega))
        · exact .inl (.inl (by omega))
/-- One field more. -/
theorem field_next {n f kb bb bc S j fb tb g cf ct : Nat} {lo D : Int} {wc wr : World} {tgt z y x : Nat → Key} (hB : AtByte n f kb bb bc lo D wc wr tgt S j fb tb z) (ht : ¬ 0 < D / 2 ^ S)
    (hT : sortF n f y = tgt) (hE : f + g = 3 ∧ sortK n g f y = sortK n 3 0 x) (hf : f < 3) : ∃ g', AtField n kb bb bc wc wr x (f + 1) fb tb cf ct g' z := by
  obtain ⟨hS, hr, hft, rf, rt, rb, ho⟩ := hB
  obtain ⟨h3, hs⟩ := hE
  have hz : tgt = z := by
    rw [← hr]
    cases j with
    | zero => rfl
    | succ j => unfold runs; rw [if_neg (show ¬ 0 < shrv D S from ht)]
  cases g with
  | zero => omega
  | succ g =>
    refine ⟨g, by omega, ?_, hft, rf, rt, rb, ho⟩
    rw [← hs, ← hz, ← hT]
    rfl
/-- The end. -/
theorem field_end {n f kb bb bc fb tb cf ct g : Nat} {wc wr : World} {x y : Nat → Key} (hA : AtField n kb bb bc wc wr x f fb tb cf ct g y) (hf : f = 3) :
    y = sortK n 3 0 x ∧ (∃ f0, Row wr kb 62 (n * 3) f0) ∧ Row wr fb 62 (n * 3) (keyv y) ∧ (∃ gb, Row wr bb 62 (bc * 3) gb) ∧ Only [kb, bb] wc wr := by
  obtain ⟨h3, hs, hft, rf, rt, rb, ho⟩ := hA
  have hg : g = 0 := by omega
  subst hg
  refine ⟨hs, ?_, rf, rb, ho⟩
  rcases hft with ⟨e1, e2⟩ | ⟨e1, e2⟩
  · subst e1; exact ⟨_, rf⟩
  · subst e2; exact rt
theorem Row.any {w : World} {b m : Nat} {T : TypeId} (h : ∃ g, Row w b T m g) (b' i : Nat) (v : Value) : ∃ g, Row (w.setCell ⟨b', i, none⟩ v) b T m g := by
  obtain ⟨g, h⟩ := h
  by_cases e : b = b'
  · subst e; exact ⟨_, h.set i v⟩
  · exact ⟨_, h.other b' i e v⟩

set_option maxRecDepth 100000 in
set_option maxHeartbeats 2000000 in
theorem radix45 (sb kb n : Nat) (v : Value) (B : List Nat) (x : Nat → Key) (w : World) (hn : 0 < n) (hl : n ≤ 65536)
    (rs : Row w sb 48 1 (fun _ => v)) (hv : BufOk w sb v B) (rk : Row w kb 62 (n * 3) (keyv x)) (h1 : sb ≠ kb) (hkB : kb ∉ B) :
    Calls Try.prog 45 #[.pointer (some ⟨sb, 0, none⟩), .slice (some ⟨kb, 0, none⟩) n n] w fun e w' => e = .returned (.tuple #[]) ∧ Sorted w w' sb kb n B x := by
  have c0 := rs.cell (i := 0) (by omega)
  have hmk := fun w => run_make_list (P := Try.prog) 46 62 (.int .i64 0) _ 3 24 n Try.underlying46 Try.info62 rfl (by omega) .i64 .i64 (by omega) (by omega) w
  have hv0 : ∃ ao bl bc, v = .slice ao bl bc := by
    rcases hv with ⟨rfl, _⟩ | ⟨bb, bl, bc, g, rfl, _⟩
    · exact ⟨_, _, _, rfl⟩
    · exact ⟨_, _, _, rfl⟩
  obtain ⟨ao, bl, bc, rfl⟩ := hv0
  go_enter Try.func45, Try.ntmps45
  go_upto_if 26 with fail
  go_cut [] from 19 to 32 (fun wc => ∃ bb bl bc, Ready w wc sb kb n B x bb bl bc)
  case first =>
    have hsb := rs.lt
    have hkb := rk.lt
    by_cases hcap : bc < n
    · have f0 := rs.frozen 0
      have R0 : Row ((w.setCell ⟨sb, 0, none⟩ (.slice (some ⟨w.heap.size, 0, none⟩) n n)).alloc (.cells (Array.replicate (n * 3) (.int .i64 0)) 62)) sb 48 1 (fun _ => .slice (some ⟨w.heap.size, 0, none⟩) n n) :=
        ((rs.set 0 _).alloc _).ext (fun i hi => by obtain rfl : i = 0 := by omega
                                                   rw [upd_at])
      have R1 : Row ((w.setCell ⟨sb, 0, none⟩ (.slice (some ⟨w.heap.size, 0, none⟩) n n)).alloc (.cells (Array.replicate (n * 3) (.int .i64 0)) 62)) w.heap.size 62 (n * 3) (fun _ => .int .i64 0) := by
        have h := Row.zeros (w.setCell ⟨sb, 0, none⟩ (.slice (some ⟨w.heap.size, 0, none⟩) n n)) (n * 3) (.int .i64 0) 62
        rwa [show (w.setCell ⟨sb, 0, none⟩ (.slice (some ⟨w.heap.size, 0, none⟩) n n)).heap.size = w.heap.size by simp [World.setCell]] at h
      have R2 : Row ((w.setCell ⟨sb, 0, none⟩ (.slice (some ⟨w.heap.size, 0, none⟩) n n)).alloc (.cells (Array.replicate (n * 3) (.int .i64 0)) 62)) kb 62 (n * 3) (keyv x) := (rk.other sb 0 (Ne.symm h1) _).alloc _
      have O : Only (kb :: sb :: B) w ((w.setCell ⟨sb, 0, none⟩ (.slice (some ⟨w.heap.size, 0, none⟩) n n)).alloc (.cells (Array.replicate (n * 3) (.int .i64 0)) 62)) :=
        ((Only.refl _ w).set sb 0 _ (.inl (by simp))).trans (Only.alloc _ _ _)
      clear rs hv rk
      go_wp2
      go_meet
      case rel => exact ⟨w.heap.size, n, n, R0, Nat.le_refl _, by omega, ⟨_, R1⟩, by omega, by omega, R2, O, .inr (Nat.le_refl _)⟩
    · have hd : decide (bc < n) = false := by simp; omega
      obtain ⟨bb, g, hao, hB, hm, rb, hbs⟩ : ∃ bb g, ao = some ⟨bb, 0, none⟩ ∧ B = [bb] ∧ bc ≤ 9223372036854775807 ∧ Row w bb 62 (bc * 3) g ∧ bb ≠ sb := by
        rcases hv with ⟨e, _⟩ | ⟨bb, bl', bc', g, e, hB, hm, rb, hbs⟩
        · simp at e; omega
        · simp at e; obtain ⟨rfl, rfl, rfl⟩ := e; exact ⟨bb, g, rfl, hB, hm, rb, hbs⟩
      subst hao hB
      have R : Ready w w sb kb n [bb] x bb bl bc := ⟨rs, by omega, hm, ⟨g, rb⟩, hbs, fun e => hkB (by simp [e]), rk, Only.refl _ _, .inl (by simp)⟩
      clear rs hv rk rb hmk
      go_wp2
      go_meet
      case rel => exact ⟨bb, bl, bc, R⟩
  case rest =>
    clear hmk c0 rs hv rk
    obtain ⟨bb, bl, bc, hr⟩ := hcut
    obtain ⟨rs, hbc, hbm, ⟨g0, rb⟩, hbs, hbk, rk, ho, hbB⟩ := hr
    have c0 := rs.cell (i := 0) (by omega)
    go_wp2
    go_quiet (fail)
    go_wp2
    have F0 : AtField n kb bb bc wc (wc.drewN nq) x 0 kb bb n bc 3 x := ⟨rfl, rfl, .inl ⟨rfl, rfl⟩, rk, ⟨_, rb.less (by omega)⟩, ⟨_, rb⟩, Only.drewN _ _ _⟩
    clear c0 rk rb
    go_loopw [41, 4, 5] (fun i fr tt wr => ∃ (f fb tb cf ct g : Nat) (y : Nat → Key), f ≤ 3 ∧ i = .int .i64 f ∧ fr = .slice (some ⟨fb, 0, none⟩) n cf ∧ tt = .slice (some ⟨tb, 0, none⟩) n ct ∧ AtField n kb bb bc wc wr x f fb tb cf ct g y) (fun i _ _ _ => 3 - (intOf i).toNat)
    case atStart => exact ⟨0, kb, bb, n, bc, 3, x, by omega, rfl, rfl, rfl, F0⟩
    case round =>
      clear F0
      obtain ⟨f, fb, tb, cf, ct, g, y, hf, rfl, rfl, rfl, hA⟩ := hrel
      by_cases hlt : f < 3
      · have rf := hA.2.2.2.1
        obtain ⟨e0, e1, e2⟩ := keyCells rf hn
        simp only [Nat.zero_mul, Nat.zero_add] at e0 e1 e2
        have g0 := cell_regrown e0
        have g1 := cell_regrown e1
        have g2 := cell_regrown e2
        have cF := fun d os => Calls.regrown_of (field55 (y 0) f (grow (redrawn wr d) os))
        have hn0 : (0 : Int) < (n : Int) := by omega
        clear rf
        go_wp2
        refine wp_region_quiet_below (by kernel_rfl) (by kernel_rfl) ?_
        repeat (quiet_step (exact cF _ _))
        refine wpQuiet_nil ?_
        intro _ hw'
        obtain ⟨⟨dq, osq⟩, hw''⟩ := hw'
        have ho1 : Only [] wr (grow (redrawn wr dq) osq) := Only.of_below (below_regrown wr dq osq)
        subst hw''
        generalize grow (redrawn wr dq) osq = w1 at *
        clear cF g0 g1 g2 e0 e1 e2
        go_wp2
        obtain ⟨wo, rfl⟩ : ∃ wo : World, wo = wr := ⟨_, rfl⟩
        go_loopw [56, 7, 8] (fun i l h wr => ∃ (k : Nat), k ≤ n ∧ i = .int .i64 k ∧ l = .int .i64 (loN f y k) ∧ h = .int .i64 (hiN f y k) ∧ Only [] wo wr) (fun i _ _ _ => n - (intOf i).toNat)
        case atStart => exact ⟨0, by omega, rfl, rfl, rfl, ho1⟩
        case round =>
          obtain ⟨k, hk, rfl, rfl, rfl, ho2⟩ := hrel
          by_cases hkn : k < n
          · have HL : Hid (loN f y (k + 1) = if fieldv f (y k) < loN f y k then fieldv f (y k) else loN f y k) := rfl
            have HH : Hid (hiN f y (k + 1) = if hiN f y k < fieldv f (y k) then fieldv f (y k) else hiN f y k) := rfl
            generalize loN f y k = lo at *
            generalize hiN f y k = hi at *
            obtain ⟨e0, e1, e2⟩ := keyCells (hA.2.2.2.1.keep ho2 (by simp)) hkn
            have hki : (k : Int) < (n : Int) := by omega
            go_wp2
            obtain ⟨w2, hw2, ho3, hs2, q0, q1, q2⟩ := oneKey wr (y k)
            rw [← hw2]
            clear hw2 e0 e1 e2
            have g0 := cell_regrown q0
            have g1 := cell_regrown q1
            have g2 := cell_regrown q2
            have cF := fun d os => Calls.regrown_of (field55 (y k) f (grow (redrawn w2 d) os))
            refine wp_region_quiet_below (by kernel_rfl) (by kernel_rfl) ?_
            repeat (quiet_step (exact cF _ _))
            refine wpQuiet_nil ?_
            intro _ hw'
            obtain ⟨⟨dq, osq⟩, hw''⟩ := hw'
            have ho4 : Only [] w2 (grow (redrawn w2 dq) osq) := Only.of_below (below_regrown w2 dq osq)
            subst hw''
            generalize grow (redrawn w2 dq) osq = w3 at *
            clear cF g0 g1 g2 q0 q1 q2
            go_wp2
            go_roundw
            case rel => exact ⟨k + 1, by omega, by go_num, by rw [HL.out], by rw [HH.out], (ho2.trans ho3).trans ho4⟩
            case measure => simp [intOf]; omega
          · have ek : n = k := by omega
            subst ek
            have B0 : AtByte n f kb bb bc (loN f y n) (wrap64 (hiN f y n - loN f y n)) wc wr (sortF n f y) 0 8 fb tb y :=
              ⟨rfl, rfl, hA.2.2.1, hA.2.2.2.1.keep ho2 (by simp), by obtain ⟨gt, h⟩ := hA.2.2.2.2.1; exact ⟨gt, h.keep ho2 (by simp)⟩, by obtain ⟨gb, h⟩ := hA.2.2.2.2.2.1; exact ⟨gb, h.keep ho2 (by simp)⟩, hA.2.2.2.2.2.2.trans (ho2.mono (by simp))⟩
            have E0 : f + g = 3 ∧ sortK n g f y = sortK n 3 0 x := ⟨hA.1, hA.2.1⟩
            generalize hT : sortF n f y = tgt at *
            have HT : Hid (sortF n f y = tgt) := hT
            have HE : Hid (f + g = 3 ∧ sortK n g f y = sortK n 3 0 x) := E0
            clear hA ho2 E0 hT ho1
            generalize hlo : loN f y n = lo at *
            generalize hhi : hiN f y n = hi at *
            clear hlo hhi
            go_wp2
            obtain ⟨wp, rfl⟩ : ∃ wp : World, wp = wr := ⟨_, rfl⟩
            go_loopw [11, 4, 5] (fun i fr tt wr => ∃ (S j fb tb cf ct : Nat) (y : Nat → Key), i = .int .i64 S ∧ fr = .slice (some ⟨fb, 0, none⟩) n cf ∧ tt = .slice (some ⟨tb, 0, none⟩) n ct ∧ AtByte n f kb bb bc lo (wrap64 (hi - lo)) wc wr tgt S j fb tb y) (fun i _ _ _ => 64 - (intOf i).toNat)
            case atStart => exact ⟨0, 8, fb, tb, cf, ct, y, rfl, rfl, rfl, B0⟩
            case round =>
              clear B0
              obtain ⟨S, j, fb, tb, cf, ct, z, rfl, rfl, rfl, hB⟩ := hrel
              have hz65 := run_zero65
              have hS : S ≤ 64 := by have := hB.1; omega
              obtain ⟨D, hD⟩ : ∃ D, D = wrap64 (hi - lo) := ⟨_, rfl⟩
              rw [← hD] at hB
              by_cases htest : 0 < D / 2 ^ S
              · have htw : 0 < wrap64 (hi - lo) / 2 ^ S := by rw [← hD]; exact htest
                have HD : Hid (D = wrap64 (hi - lo)) := hD
                clear hD htest
                go_wp2
                have rab := row257 wr (fun i => byteN f lo S (z i))
                have ho5 := Only.alloc [] wr (.cells z257 65)
                generalize hW : wr.alloc (.cells z257 65) = wq at *
                clear hW hz65
                obtain ⟨ab, hab⟩ : ∃ ab, ab = wr.heap.size := ⟨_, rfl⟩
                rw [← hab] at rab ⊢
                have HAB : Hid (ab = wr.heap.size) := hab
                clear hab
                obtain ⟨wr3, rfl⟩ : ∃ wr3 : World, wr3 = wr := ⟨_, rfl⟩
                obtain ⟨b, hb⟩ : ∃ b : Nat → Nat, b = fun i => byteN f lo S (z i) := ⟨_, rfl⟩
                have hb2 : ∀ i, b i < 256 := by intro i; rw [hb]; exact byteN_lt _ _ _ _
                have hb3 : ∀ i, wrap64 (fieldv f (z i) - lo) / 2 ^ S % 256 = (b i : Int) := by intro i; rw [hb]; exact byteN_eq _ _ _ _
                have HB : Hid (b = fun i => byteN f lo S (z i)) := hb
                clear hb
                have hand := i64_and255
                go_loopw [81] (fun i wr => ∃ (k : Nat), k ≤ n ∧ i = .int .i64 k ∧ Row wr ab 65 257 (ints (aCount b k)) ∧ Only [ab] wq wr) (fun i _ => n - (intOf i).toNat)
                case atStart => exact ⟨0, by omega, rfl, rab.ext (fun i _ => aCount_zero b i), Only.refl _ _⟩
                case round =>
                  obtain ⟨k, hk, rfl, hab, ho6⟩ := hrel
                  by_cases hkn : k < n
                  · have hbk2 := hb2 k
                    have hcn := Count.cnt_le b k (b k)
                    have hfb : fb ≠ ab := by have := hB.2.2.2.1.lt; have := HAB.out; omega
                    obtain ⟨e0, e1, e2⟩ := keyCells ((hB.2.2.2.1.keep ho5 (by simp)).keep ho6 (by simpa using hfb)) hkn
                    have hki : (k : Int) < (n : Int) := by omega
                    have hbyte := hb3 k
                    clear hb3
                    go_wp2_with fail
                    obtain ⟨w2, hw2, ho7, hs2, q0, q1, q2⟩ := oneKey wr (z k)
                    rw [← hw2]
                    clear hw2 e0 e1 e2
                    refine (field55 (z k) f _).mono ?_
                    rintro e w3 ⟨rfl, hb3⟩
                    have hab3 := (hab.keep ho7 (by simp)).keep (Only.of_below hb3) (by simp)
                    have ca := hab3.cell (i := b k + 1) (by omega)
                    unfold ints at ca
                    rw [aCount_at] at ca
                    have fa := hab3.frozen (b k + 1)
                    have R := (hab3.set (b k + 1) (.int .i64 ((Count.cnt b k (b k) : Int) + 1))).ext (fun i _ => aCount_step b k i)
                    have O := ((ho6.trans (ho7.mono (by simp))).trans ((Only.of_below hb3).mono (by simp))).set ab (b k + 1) (.int .i64 ((Count.cnt b k (b k) : Int) + 1)) (.inl (by simp))
                    clear hab3 hab ho6 ho7 hb3
                    generalize hcc : Count.cnt b k (b k) = cc at *
                    generalize hbb : b k = bk at *
                    clear hbb hcc
                    go_wp2_with fail
                    go_roundw
                    case rel => exact ⟨k + 1, by omega, by go_num, R, O⟩
                    case measure => simp [intOf]; omega
                  · have ek : n = k := by omega
                    subst ek
                    have hbn : ∀ i, i < n → b i < 256 := fun i _ => hb2 i
                    go_wp2
                    go_loopw [15] (fun i wr => ∃ (c : Nat), 1 ≤ c ∧ c ≤ 257 ∧ i = .int .i64 c ∧ Row wr ab 65 257 (ints (aPre b n c)) ∧ Only [ab] wq wr) (fun i _ => 257 - (intOf i).toNat)
                    case atStart => exact ⟨1, by omega, by omega, rfl, hab.ext (fun i _ => aPre_one b n i), ho6⟩
                    case round =>
                      clear hab ho6
                      obtain ⟨c, hc1, hc2, rfl, hab, ho6⟩ := hrel
                      by_cases hc : c < 257
                      · have ca := hab.cell (i := c) (by omega)
                        have cb := hab.cell (i := c - 1) (by omega)
                        unfold ints at ca cb
                        rw [aPre_at b n c hc1] at ca
                        rw [aPre_before b n c hc1] at cb
                        have fa := hab.frozen c
                        have l1 := Count.cnt_le b n (c - 1)
                        have l2 := Count.below_le b n (c - 1) hbn (by omega)
                        have R := (hab.set c (.int .i64 ((Count.cnt b n (c - 1) : Int) + (Count.below b n (c - 1) : Int)))).ext (fun i _ => aPre_step b n c i hc1)
                        have O := ho6.set ab c (.int .i64 ((Count.cnt b n (c - 1) : Int) + (Count.below b n (c - 1) : Int))) (.inl (by simp))
                        have hci : (c : Int) < 257 := by omega
                        have hci0 : (1 : Int) ≤ (c : Int) := by omega
                        clear hab ho6 hand hb3 hb2 hbn
                        generalize Count.cnt b n (c - 1) = x1 at *
                        generalize Count.below b n (c - 1) = x2 at *
                        go_wp2
                        go_region
                        go_wp2
                        go_roundw
                        case rel => exact ⟨c + 1, by omega, by omega, by go_num, R, O.trans (Only.drew _ _)⟩
                        case measure => simp [intOf]; omega
                      · have ec : c = 257 := by omega
                        subst ec
                        have hrun := (hab.ext (fun i hi => aRun_zero b n i hi)).less (show 256 ≤ 257 by omega)
                        have hfb : fb ≠ ab := by have := hB.2.2.2.1.lt; have := HAB.out; omega
                        obtain ⟨gt, hgt⟩ := hB.2.2.2.2.1
                        obtain ⟨gb, hgb⟩ := hB.2.2.2.2.2.1
                        have htb : tb ≠ ab := by have := hgt.lt; have := HAB.out; omega
                        have hbb : bb ≠ ab := by have := hgb.lt; have := HAB.out; omega
                        have hft : fb ≠ tb := by rcases hB.2.2.1 with ⟨e1, e2⟩ | ⟨e1, e2⟩ <;> omega
                        have hgt1 := (hgt.keep ho5 (by simp)).keep ho6 (by simpa using htb)
                        have hgb1 := (hgb.keep ho5 (by simp)).keep ho6 (by simpa using hbb)
                        have ho61 : Only [ab, tb] wq wr := ho6.mono (by simp)
                        have rf2 := hB.2.2.2.1.keep ho5 (by simp)
                        clear hab ho6 hgt hgb
                        go_wp2
                        go_loopw [114] (fun i wr => ∃ (k : Nat), k ≤ n ∧ i = .int .i64 k ∧ Row wr ab 65 256 (ints (aRun b n k)) ∧ (∃ g, Row wr tb 62 (n * 3) g ∧ Placed b n z k g) ∧ (∃ gb, Row wr bb 62 (bc * 3) gb) ∧ Only [ab, tb] wq wr) (fun i _ => n - (intOf i).toNat)
                        case atStart => exact ⟨0, by omega, rfl, hrun, ⟨gt, hgt1, fun i hi => by omega⟩, ⟨gb, hgb1⟩, ho61⟩
                        case round =>
                          clear hrun hgt1 hgb1 ho61
                          obtain ⟨k, hk, rfl, hab, ⟨gt, hgt, hpl⟩, ⟨gb, hgb⟩, ho6⟩ := hrel
                          by_cases hkn : k < n
                          · obtain ⟨e0, e1, e2⟩ := keyCells (rf2.keep ho6 (by simp; omega)) hkn
                            have hki : (k : Int) < (n : Int) := by omega
                            have hbyte := hb3 k
                            have hbk2 := hb2 k
                            have hp := Count.pos_lt b n k hbn hkn
                            clear hb3
                            go_wp2_with fail
                            obtain ⟨w2, hw2, ho7, hs2, q0, q1, q2⟩ := oneKey wr (z k)
                            rw [← hw2]
                            clear hw2 e0 e1 e2
                            refine (field55 (z k) f _).mono ?_
                            rintro e w3 ⟨rfl, hb4⟩
                            have O3 : Only [] w2 w3 := Only.of_below hb4
                            replace q0 := O3.cell (by simp) q0
                            replace q1 := O3.cell (by simp) q1
                            replace q2 := O3.cell (by simp) q2
                            replace hab := (hab.keep ho7 (by simp)).keep O3 (by simp)
                            replace hgt := (hgt.keep ho7 (by simp)).keep O3 (by simp)
                            replace hgb := (hgb.keep ho7 (by simp)).keep O3 (by simp)
                            replace ho6 := (ho6.trans (ho7.mono (by simp))).trans (O3.mono (by simp))
                            have ca : w3.cell? ⟨ab, b k, none⟩ = some (.int .i64 ((Count.pos b n k : Nat) : Int)) := hab.cell (by omega)
                            have d0 := hgt.cell (i := Count.pos b n k * 3) (by omega)
                            have d1 := hgt.cell (i := Count.pos b n k * 3 + 1) (by omega)
                            have d2 := hgt.cell (i := Count.pos b n k * 3 + 2) (by omega)
                            have f0 := hgt.frozen (Count.pos b n k * 3)
                            have f1 := hgt.frozen (Count.pos b n k * 3 + 1)
                            have f2 := hgt.frozen (Count.pos b n k * 3 + 2)
                            have hab4 := ((hab.other tb (Count.pos b n k * 3) (Ne.symm htb) (.int .i64 (z k).1)).other tb (Count.pos b n k * 3 + 1) (Ne.symm htb) (.int .i64 (z k).2.1)).other tb (Count.pos b n k * 3 + 2) (Ne.symm htb) (.int .i64 (z k).2.2)
                            have ca4 : ((((w3.setCell ⟨tb, Count.pos b n k * 3, none⟩ (.int .i64 (z k).1)).setCell ⟨tb, Count.pos b n k * 3 + 1, none⟩ (.int .i64 (z k).2.1)).setCell ⟨tb, Count.pos b n k * 3 + 2, none⟩ (.int .i64 (z k).2.2))).cell? ⟨ab, b k, none⟩ = some (.int .i64 ((Count.pos b n k : Nat) : Int)) := hab4.cell (by omega)
                            have fa4 := hab4.frozen (b k)
                            have R1 := (hab4.set (b k) (.int .i64 (((Count.pos b n k : Nat) : Int) + 1))).ext (fun i _ => aRun_step b n k i)
                            have R2 := ((hgt.set3 (Count.pos b n k * 3) (.int .i64 (z k).1) (.int .i64 (z k).2.1) (.int .i64 (z k).2.2)).other ab (b k) htb (.int .i64 (((Count.pos b n k : Nat) : Int) + 1)))
                            have P2 := placed_step hpl hkn
                            have R3 := Row.any (Row.any (Row.any (Row.any ⟨gb, hgb⟩ tb (Count.pos b n k * 3) (.int .i64 (z k).1)) tb (Count.pos b n k * 3 + 1) (.int .i64 (z k).2.1)) tb (Count.pos b n k * 3 + 2) (.int .i64 (z k).2.2)) ab (b k) (.int .i64 (((Count.pos b n k : Nat) : Int) + 1))
                            have O := (ho6.set3 tb (Count.pos b n k * 3) (.int .i64 (z k).1) (.int .i64 (z k).2.1) (.int .i64 (z k).2.2) (.inl (by simp))).set ab (b k) (.int .i64 (((Count.pos b n k : Nat) : Int) + 1)) (.inl (by simp))
                            clear hab hgt hgb ho6 ho7 hb4 O3 hab4 rf2 hpl hbn hb2
                            generalize Count.pos b n k = pk at *
                            generalize hbb : b k = bk at *
                            clear hbb
                            have hpi : (pk : Int) < (n : Int) := by omega
                            go_wp2_with fail
                            go_region
                            go_wp2
                            go_roundw
                            case rel => first | exact ⟨k + 1, by omega, by go_num, R1, ⟨_, R2, P2⟩, R3, O.trans (Only.drew _ _)⟩ | ((repeat apply Exists.intro); exact ⟨⟨k + 1, by omega, by go_num, R1, ⟨_, R2, P2⟩, R3, O.trans (Only.drew _ _)⟩, rfl⟩)
                            case measure => simp [intOf]; omega
                          · have ek : n = k := by omega
                            subst ek
                            have hbe := HB.out
                            subst hbe
                            have rt := hgt.ext (fun c hc => placed_all hpl hbn c hc)
                            have hDe := HD.out
                            subst hDe
                            obtain ⟨hS64, j', hB'⟩ := byte_next hB htw HAB.out ho5 ho6 rt ⟨gb, hgb⟩ hbk
                            clear hB ho5 ho6 hgt hgb hpl rt hab hand hb3 hb2 hbn rf2
                            go_wp2
                            go_roundw
                            case rel => exact ⟨S + 8, j', tb, fb, ct, cf, _, by go_num, rfl, rfl, hB'⟩
                            case measure => simp [intOf]; omega
              · have htw : ¬ 0 < wrap64 (hi - lo) / 2 ^ S := by rw [← hD]; exact htest
                subst hD
                obtain ⟨g', hA'⟩ := field_next (cf := cf) (ct := ct) hB htw HT.out HE.out hlt
                clear hB hz65
                go_wp2
                go_roundw
                case rel => exact ⟨f + 1, fb, tb, cf, ct, g', z, by omega, by go_num, rfl, rfl, hA'⟩
                case measure => simp [intOf]; omega
      · obtain ⟨hy, ⟨f0, rk⟩, rf, ⟨gb, rb⟩, ho2⟩ := field_end hA (by omega)
        obtain ⟨w', hrun, rk', ho3⟩ := run_copy_rows (P := Try.prog) wr 46 3 62 3 n n cf 62 62 kb fb (keyv y) f0 Try.underlying46 Try.size62 rk rf (fun i => rfl)
        have fin : Sorted w w' sb kb n B x := by
          refine ⟨_, [bb], (rs.keep ho2 ?_).keep ho3 ?_, .inr ⟨bb, bl, bc, gb, rfl, rfl, hbm, rb.keep ho3 ?_, hbs⟩, ?_, ?_, ?_⟩
          · simp; exact ⟨h1, Ne.symm hbs⟩
          · simpa using h1
          · simpa using hbk
          · simpa using hbB
          · rw [← hy]; exact rk'
          · refine (ho.trans' ho2 (fun i hi => ?_)).trans (ho3.mono (by simp))
            simp only [List.mem_cons, List.not_mem_nil, or_false] at hi
            rcases hi with e | e
            · exact .inl (by simp [e])
            · subst e
              rcases hbB with h | h
              · exact .inl (by simp [h])
              · exact .inr h
        clear hA rk rf rb ho2 rk' ho3 rs ho hbB
        go_wp2
        go_end0
        exact ⟨rfl, fin⟩
end Go.Proofs.Qxb6602564a
