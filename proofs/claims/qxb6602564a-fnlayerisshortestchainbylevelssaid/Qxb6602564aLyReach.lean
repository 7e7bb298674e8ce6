/-
  reach: a unit is reached and queued.
-/
import Derived.Test.Qxb6602564aLyClone
import Derived.Deep.RegionHeld3
import Derived.Deep.CutRange
import Derived.Test.Qxb6602564aLyDefs
import Derived.Laws.AppendOwn
import Derived.Deep.AppendLies
namespace Go.Proofs.Qxb6602564a
open Go.RowKit
set_option linter.unusedVariables false

theorem Try.siz77 : (Try.prog.info? 77).map (·.size) = some 2 := by kernel_rfl
def qv (l : List Nat) : List Value := l.map (fun u : Nat => Value.int .i64 (u : Int))
theorem Row.ne {w : World} {b b' : Nat} {T T' : TypeId} {n n' : Nat} {f f' : Nat → Value} (r : Row w b T n f) (r' : Row w b' T' n' f') (h : T ≠ T') : b ≠ b' := by
  rintro rfl
  obtain ⟨xs, h1, _⟩ := r
  obtain ⟨ys, h2, _⟩ := r'
  rw [h1] at h2
  simp at h2
  exact h h2.2
theorem news_at {w : World} {n : Nat} (hn : w.heap.size = n) (xs : List Value) (T : TypeId) : ∀ j u, xs[j]? = some u → (w.alloc (.cells xs.toArray T)).cell? ((⟨n, 0, none⟩ : Addr).add j) = some u := by
  subst hn
  intro j u hu
  have hadd : (⟨w.heap.size, 0, none⟩ : Addr).add j = ⟨w.heap.size, j, none⟩ := by unfold Addr.add; split <;> simp_all
  rw [hadd, cell_of_row _ _ j xs.toArray T (0, 0) (heap_alloc_new w _)]
  simpa using hu
/-- What the statement of the four stores reads, in whatever world of the way. -/
structure ReS (m : M) (sb fb vb db ib x bx : Nat) (q : Value) (N dx pv tv : Int) (w w' : World) : Prop where
  o : Only [fb, vb, db, ib] w w'
  s : Row w' sb 69 6 (scell m.n1 fb vb db ib q N)
  d : w'.cell? ⟨db, x, none⟩ = some (.int .i64 dx)
  p : w'.cell? ⟨bx, 0, none⟩ = some (.int .i32 pv)
  t : w'.cell? ⟨bx, 1, none⟩ = some (.int .i32 tv)
theorem ReS.set {m : M} {sb fb vb db ib x bx : Nat} {q : Value} {N dx pv tv : Int} {w w' : World} (h : ReS m sb fb vb db ib x bx q N dx pv tv w w') (b j : Nat) (v : Value) (hb : b ∈ [fb, vb, db, ib]) (h1 : sb ≠ b) (h2 : b ≠ db ∨ j ≠ x) (h3 : bx ≠ b) : ReS m sb fb vb db ib x bx q N dx pv tv w (w'.setCell ⟨b, j, none⟩ v) :=
  ⟨h.o.set b j v (.inl hb), h.s.other b j h1 v, (World.cell?_setCell_other w' _ _ v (by rcases h2 with h | h <;> simp [h])).trans h.d, (World.cell?_setCell_other w' _ _ v (fun e => h3 (congrArg Addr.block e).symm)).trans h.p, (World.cell?_setCell_other w' _ _ v (fun e => h3 (congrArg Addr.block e).symm)).trans h.t⟩
theorem ReS.drew {m : M} {sb fb vb db ib x bx : Nat} {q : Value} {N dx pv tv : Int} {w w' : World} (h : ReS m sb fb vb db ib x bx q N dx pv tv w w') : ReS m sb fb vb db ib x bx q N dx pv tv w w'.drew := ⟨h.o.trans (Only.drew _ _), h.s.drew, h.d, h.p, h.t⟩
theorem ownsRow_keep {S : List Nat} {w w' : World} {base : Nat} {e : TypeId} {size : Nat} {v : Value} {n : Nat} {xs : List Value} (h : w.ownsRow base e size v n xs) (O : Only S w w') (hS : ∀ k, k ∈ S → k < base) : w'.ownsRow base e size v n xs := by
  obtain ⟨h1, h2⟩ := h
  refine ⟨h1, ?_⟩
  rcases h2 with h2 | ⟨g, cap, cur, hv, hg, hh, r⟩
  · exact .inl h2
  · exact .inr ⟨g, cap, cur, hv, hg, (O.block g (lt_of_block hh) (fun hk => by have := hS g hk; omega)).trans hh, r⟩
theorem Row.below {w w' : World} {b B : Nat} {T : TypeId} {n : Nat} {f : Nat → Value} (r : Row w b T n f) (hb : Below B w w') (h : b < B) : Row w' b T n f := by
  obtain ⟨xs, h1, h2, h3⟩ := r
  exact ⟨xs, (hb.block b h).trans h1, h2, h3⟩
/-- Another owned row: none, or at another block than q. -/
def Apart (v q : Value) : Prop := v.ownBlock = none ∨ v.ownBlock ≠ q.ownBlock
/-- Between w and w' nothing turned but the blocks in S and the queue's; the queue stays where it is or is new. -/
structure Kept (S : List Nat) (q q' : Value) (w w' : World) : Prop where
  size : w.heap.size ≤ w'.heap.size
  blk : ∀ k, k < w.heap.size → k ∉ S → q.ownBlock ≠ some k → w'.heap[k]? = w.heap[k]?
  own : q'.ownBlock = q.ownBlock ∨ ∃ g, q'.ownBlock = some g ∧ w.heap.size ≤ g
theorem Kept.of_only {S : List Nat} {w w' : World} (O : Only S w w') (q : Value) : Kept S q q w w' := ⟨O.size, fun k hk hS _ => O.block k hk hS, .inl rfl⟩
theorem Kept.refl (S : List Nat) (q : Value) (w : World) : Kept S q q w w := Kept.of_only (Only.refl _ _) q
theorem Kept.mono {S S' : List Nat} {q q' : Value} {w w' : World} (h : Kept S q q' w w') (hS : ∀ k, k ∈ S → k ∈ S') : Kept S' q q' w w' := ⟨h.size, fun k hk h1 h2 => h.blk k hk (fun h3 => h1 (hS k h3)) h2, h.own⟩
theorem Kept.trans {S : List Nat} {q q' q'' : Value} {w w' w'' : World} (h : Kept S q q' w w') (g : Kept S q' q'' w' w'') : Kept S q q'' w w'' := by
  refine ⟨Nat.le_trans h.size g.size, fun k hk hS hq => ?_, ?_⟩
  · rw [g.blk k (Nat.lt_of_lt_of_le hk h.size) hS ?_, h.blk k hk hS hq]
    rcases h.own with e | ⟨y, e, hy⟩
    · rw [e]; exact hq
    · rw [e]; intro e2; cases e2; omega
  · rcases g.own with e | ⟨y, e, hy⟩
    · rw [e]; exact h.own
    · exact .inr ⟨y, e, Nat.le_trans h.size hy⟩
theorem Kept.of_grown {q : Value} {g n c : Nat} {w w' : World} (h : w.grownBy w' q.ownBlock) (hat : q.ownBlock = some g ∨ w.heap.size ≤ g) : Kept [] q (.slice (some ⟨g, 0, none⟩) n c) w w' := by
  refine ⟨h.size, fun k hk _ hq => h.block k hk (fun e => hq e.symm), ?_⟩
  rcases hat with e | e
  · exact .inl (by rw [e]; rfl)
  · exact .inr ⟨g, rfl, e⟩
theorem Kept.row {S : List Nat} {q q' : Value} {w w' : World} (h : Kept S q q' w w') {b : Nat} {T : TypeId} {n : Nat} {f : Nat → Value} (r : Row w b T n f) (hS : b ∉ S) (hq : q.ownBlock ≠ some b) : Row w' b T n f := by
  have hl := r.lt
  obtain ⟨xs, h1, h2, h3⟩ := r
  exact ⟨xs, (h.blk b hl hS hq).trans h1, h2, h3⟩
theorem ownsRow_not {w : World} {base : Nat} {v : Value} {n : Nat} {xs : List Value} (h : w.ownsRow base 3 1 v n xs) {b : Nat} {T : TypeId} {k : Nat} {f : Nat → Value} (r : Row w b T k f) (hT : T ≠ 3) : v.ownBlock ≠ some b := by
  intro e
  rcases h.2 with ⟨rfl, _⟩ | ⟨g, cap, cur, rfl, _, hh, _⟩
  · cases e
  · simp only [Value.ownBlock, Option.some.injEq] at e
    subst e
    obtain ⟨xs, h1, _⟩ := r
    rw [h1] at hh
    simp at hh
    exact hT hh.2
theorem Kept.owns {S : List Nat} {q q' : Value} {w w' : World} (h : Kept S q q' w w') {base : Nat} {v : Value} {n : Nat} {xs : List Value} (hv : w.ownsRow base 3 1 v n xs) (hS : ∀ k, k ∈ S → k < base) (hap : Apart v q) : w'.ownsRow base 3 1 v n xs ∧ Apart v q' := by
  refine ⟨⟨hv.1, ?_⟩, ?_⟩
  · rcases hv.2 with e | ⟨g, cap, cur, rfl, hg, hh, r⟩
    · exact .inl e
    · refine .inr ⟨g, cap, cur, rfl, hg, (h.blk g (lt_of_block hh) (fun hk => by have := hS g hk; omega) ?_).trans hh, r⟩
      rcases hap with e | e
      · cases e
      · exact fun e2 => e e2.symm
  · cases hvb : v.ownBlock with
    | none => exact .inl hvb
    | some k =>
      refine .inr ?_
      have hl := (hv.lt k hvb).2
      rcases hap with e | e
      · rw [hvb] at e; cases e
      · rcases h.own with e2 | ⟨g, e2, hg⟩
        · rw [e2]; exact e
        · rw [e2, hvb]; intro e3; cases e3; omega
def ReachP (m : M) (B0 base mb sb fb vb db ib hb : Nat) (q giv : Value) (N : Int) (d i o : Nat → Int) (l : List Nat) (x u : Nat) (w : World) (e : Ending) (w' : World) : Prop :=
  ∃ q', e = .returned (.tuple #[]) ∧ MS w' m mb sb fb vb db ib hb q' giv N (fun j => if j = u then d x + 1 else d j) (fun j => if j = u then N else i j) o ∧ w'.ownsRow base 3 1 q' (l.length + 1) (qv (l ++ [u])) ∧ Below B0 w w' ∧ Kept [sb, fb, vb, db, ib] q q' w w'
set_option maxRecDepth 100000 in
set_option maxHeartbeats 8000000 in
theorem reach61 (m : M) (B0 base mb sb fb vb db ib hb : Nat) (q giv : Value) (N : Int) (d i o : Nat → Int) (l : List Nat) (x u : Nat) (pv tv : Int) (w : World) (S : MS w m mb sb fb vb db ib hb q giv N d i o) (hq : w.ownsRow base 3 1 q l.length (qv l)) (hx : x < m.n1) (hu : u < m.n1) (hxu : x ≠ u)
    (h0 : B0 ≤ sb ∧ B0 ≤ fb ∧ B0 ≤ vb ∧ B0 ≤ db ∧ B0 ≤ ib) (hb0 : B0 ≤ base) (hbase : base ≤ w.heap.size) (hd : -1000000000 ≤ d x ∧ d x ≤ 1000000000) (hl : l.length ≤ 1000000) (hn : m.n1 ≤ 262144) (hbf : fb < base ∧ db < base ∧ ib < base ∧ vb < base ∧ mb < base ∧ sb < base ∧ hb < base) :
    Calls Try.prog 61 #[.pointer (some ⟨sb, 0, none⟩), .int .i64 (x : Int), .int .i64 (u : Int), .agg #[.int .i32 pv, .int .i32 tv]] w fun e w' => ReachP m B0 base mb sb fb vb db ib hb q giv N d i o l x u w e w' := by
  obtain ⟨rm, rs, ⟨gf, rf⟩, ⟨gv, rv⟩, rd, ri, ⟨gh, rh, hh⟩, fd, fi, di⟩ := S
  have n1 := rs.ne rf (by decide)
  have n2 := rs.ne rv (by decide)
  have n3 := rs.ne rd (by decide)
  have n4 := rs.ne ri (by decide)
  have n5 := rf.ne rv (by decide)
  have n6 := rv.ne rd (by decide)
  have n7 := rv.ne ri (by decide)
  obtain ⟨wb, hwb⟩ : ∃ wb, wb = w.alloc (.cells #[.int .i32 pv, .int .i32 tv] 77) := ⟨_, rfl⟩
  have Ob : Only [] w wb := by rw [hwb]; exact Only.alloc _ _ _
  have zb : wb.heap.size = w.heap.size + 1 := by rw [hwb]; simp
  have p0 : wb.cell? ⟨w.heap.size, 0, none⟩ = some (.int .i32 pv) := by rw [hwb]; simp [World.cell?_alloc_at]
  have p1 : wb.cell? ⟨w.heap.size, 1, none⟩ = some (.int .i32 tv) := by rw [hwb]; simp [World.cell?_alloc_at]
  have b1 := rf.lt
  have b2 := rv.lt
  have b3 := rd.lt
  have b4 := ri.lt
  have b5 := rs.lt
  have RS : ∀ w', ReS m sb fb vb db ib x w.heap.size q N (d x) pv tv wb w' → w'.cell? ⟨sb, 1, none⟩ = some (.slice (some ⟨fb, 0, none⟩) m.n1 m.n1) ∧ w'.cell? ⟨sb, 2, none⟩ = some (.slice (some ⟨vb, 0, none⟩) m.n1 m.n1) := fun w' h => ⟨h.s.cell (i := 1) (by omega), h.s.cell (i := 2) (by omega)⟩
  have s1 : ∀ w', ReS m sb fb vb db ib x w.heap.size q N (d x) pv tv wb w' → w'.cell? ⟨sb, 1, none⟩ = some (.slice (some ⟨fb, 0, none⟩) m.n1 m.n1) := fun w' h => h.s.cell (i := 1) (by omega)
  have s2 : ∀ w', ReS m sb fb vb db ib x w.heap.size q N (d x) pv tv wb w' → w'.cell? ⟨sb, 2, none⟩ = some (.slice (some ⟨vb, 0, none⟩) m.n1 m.n1) := fun w' h => h.s.cell (i := 2) (by omega)
  have s3 : ∀ w', ReS m sb fb vb db ib x w.heap.size q N (d x) pv tv wb w' → w'.cell? ⟨sb, 3, none⟩ = some (.slice (some ⟨db, 0, none⟩) m.n1 m.n1) := fun w' h => h.s.cell (i := 3) (by omega)
  have s4 : ∀ w', ReS m sb fb vb db ib x w.heap.size q N (d x) pv tv wb w' → w'.cell? ⟨sb, 4, none⟩ = some (.slice (some ⟨ib, 0, none⟩) m.n1 m.n1) := fun w' h => h.s.cell (i := 4) (by omega)
  have s5 : ∀ w', ReS m sb fb vb db ib x w.heap.size q N (d x) pv tv wb w' → w'.cell? ⟨sb, 5, none⟩ = some (.int .i64 N) := fun w' h => h.s.cell (i := 5) (by omega)
  have s6 : ∀ w', ReS m sb fb vb db ib x w.heap.size q N (d x) pv tv wb w' → w'.cell? ⟨db, x, none⟩ = some (.int .i64 (d x)) := fun w' h => h.d
  have s7 : ∀ w', ReS m sb fb vb db ib x w.heap.size q N (d x) pv tv wb w' → w'.cell? ⟨w.heap.size, 0, none⟩ = some (.int .i32 pv) := fun w' h => h.p
  have s8 : ∀ w', ReS m sb fb vb db ib x w.heap.size q N (d x) pv tv wb w' → w'.cell? ⟨w.heap.size, 1, none⟩ = some (.int .i32 tv) := fun w' h => h.t
  have S00 : ReS m sb fb vb db ib x w.heap.size q N (d x) pv tv wb wb := ⟨Only.refl _ _, rs.keep Ob (by simp), (rd.keep Ob (by simp)).cell hx, p0, p1⟩
  have S0 := S00.drew
  have rf1 := rf.keep Ob (by simp)
  have rv1 := rv.keep Ob (by simp)
  have rd1 := rd.keep Ob (by simp)
  have ri1 := ri.keep Ob (by simp)
  have cf := rf1.cell hu
  have cv0 := rv1.cell (i := u * 2) (by omega)
  have cv1 := rv1.cell (i := u * 2 + 1) (by omega)
  have cd := rd1.cell hu
  have ci := ri1.cell hu
  have ff := rf1.frozen
  have fv := rv1.frozen
  have fdd := rd1.frozen
  have fii := ri1.frozen
  have HW : Hid (wb = _) := hwb
  have hxi : (x : Int) < (m.n1 : Int) := by omega
  have hui : (u : Int) < (m.n1 : Int) := by omega
  have ixv : ∀ w0 : World, (Instr.indexAt 67 (.slice (some ⟨vb, 0, none⟩) m.n1 m.n1) (.int .i64 (u : Int))).run Try.prog w0 = .ok (.pointer (some ⟨vb, u * 2, none⟩)) w0 := fun w0 => by
    have h2 : Try.prog.elem 67 = 77 := by simp [Program.elem, Try.underlying67]
    rw [run_indexAt_slice w0 67 ⟨vb, 0, none⟩ m.n1 m.n1 .i64 (u : Int) (by rw [h2]; exact Try.underlying67), if_pos ⟨by omega, by omega⟩, h2]
    cases hq : Try.prog.info? 77 with
    | none => have h := Try.siz77; simp [hq] at h
    | some inf =>
      have hz : inf.size = 2 := by have h := Try.siz77; simpa [hq] using h
      have e : (⟨vb, 0, none⟩ : Addr).add (u * 2) = ⟨vb, u * 2, none⟩ := by unfold Addr.add; split <;> simp_all
      simp [sizeOf, typeInfo, hq, hz, e]
  obtain ⟨hd1, hd2⟩ := hd
  obtain ⟨z1, z2, z3, z4, z5, z6, z7⟩ := hbf
  obtain ⟨y1, y2, y3, y4, y5⟩ := h0
  -- behind the four stores
  obtain ⟨w1, hw1⟩ : ∃ w1, w1 = (((((wb.setCell ⟨fb, u, none⟩ (.int .i64 (x : Int))).setCell ⟨vb, u * 2, none⟩ (.int .i32 pv)).setCell ⟨vb, u * 2 + 1, none⟩ (.int .i32 tv)).setCell ⟨db, u, none⟩ (.int .i64 (d x + 1))).setCell ⟨ib, u, none⟩ (.int .i64 N)).drew := ⟨_, rfl⟩
  have O1 : Only [fb, vb, db, ib] wb w1 := by
    rw [hw1]
    exact (((((Only.refl _ _).set fb _ _ (.inl (by simp))).set vb _ _ (.inl (by simp))).set vb _ _ (.inl (by simp))).set db _ _ (.inl (by simp))).set ib _ _ (.inl (by simp)) |>.trans (Only.drew _ _)
  have rm1 := (rm.keep Ob (by simp)).keep O1 (by
    have e1 := rm.ne rf (by decide)
    have e2 := rm.ne rv (by decide)
    have e3 := rm.ne rd (by decide)
    have e4 := rm.ne ri (by decide)
    simp; exact ⟨e1, e2, e3, e4⟩)
  have rs1 := (rs.keep Ob (by simp)).keep O1 (by simp; exact ⟨n1, n2, n3, n4⟩)
  have rh1 := (rh.keep Ob (by simp)).keep O1 (by
    have e1 := rh.ne rf (by decide)
    have e2 := rh.ne rv (by decide)
    have e3 := rh.ne rd (by decide)
    have e4 := rh.ne ri (by decide)
    simp; exact ⟨e1, e2, e3, e4⟩)
  have rf2 : ∃ g, Row w1 fb 3 m.n1 g := by
    rw [hw1]; exact ⟨_, (((((rf1.set u _).other vb _ n5 _).other vb _ n5 _).other db _ fd _).other ib _ fi _).drew⟩
  have rv2 : ∃ g, Row w1 vb 77 (m.n1 * 2) g := by
    rw [hw1]; exact ⟨_, (((((rv1.other fb _ (Ne.symm n5) _).set _ _).set _ _).other db _ n6 _).other ib _ n7 _).drew⟩
  have rd2 : Row w1 db 3 m.n1 (nums (fun j => if j = u then d x + 1 else d j)) := by
    rw [hw1]
    refine ((((((rd1.other fb _ (Ne.symm fd) _).other vb _ (Ne.symm n6) _).other vb _ (Ne.symm n6) _).set u _).other ib _ di _).drew).ext (fun j hj => ?_)
    by_cases e : j = u
    · subst e; rw [upd_at]; simp [nums]
    · rw [upd_ne _ _ e]; simp [nums, e]
  have ri2 : Row w1 ib 3 m.n1 (nums (fun j => if j = u then N else i j)) := by
    rw [hw1]
    refine ((((((ri1.other fb _ (Ne.symm fi) _).other vb _ (Ne.symm n7) _).other vb _ (Ne.symm n7) _).other db _ (Ne.symm di) _).set u _).drew).ext (fun j hj => ?_)
    by_cases e : j = u
    · subst e; rw [upd_at]; simp [nums]
    · rw [upd_ne _ _ e]; simp [nums, e]
  have hq1 : w1.ownsRow base 3 1 q l.length (qv l) := ownsRow_keep (ownsRow_keep hq Ob (by simp)) O1 (by simp; exact ⟨z1, z4, z2, z3⟩)
  have k0 : w1.cell? ⟨sb, 0, none⟩ = some q := rs1.cell (i := 0) (by omega)
  have k0a := fun o => (Only.alloc [] w1 o).cell (by simp) k0
  have hsz := O1.size
  have HW1 : Hid (w1 = _) := hw1
  obtain ⟨i3, hi3, hz30, hz31, hz32⟩ := info_parts Try.inf3
  have W1 := fun o => hq1.alloc o
  have N1 := news_at (w := w1) rfl [Value.int .i64 (u : Int)] 3
  clear hwb RS hw1
  go_enter Try.func61, Try.ntmps61
  go_upto_region 1 with fail
  rw [← HW.out]
  go_region_held3 (fun w' => ReS m sb fb vb db ib x w.heap.size q N (d x) pv tv wb w') (first | with_reducible exact S0 | with_reducible assumption | (with_reducible refine ReS.drew ?_; (repeat with_reducible refine ReS.set ?_ _ _ _ (by simp) (by first | exact n1 | exact n2 | exact n3 | exact n4) (by first | exact .inl fd | exact .inl n6 | exact .inl (Ne.symm di) | exact .inr (Ne.symm hxu)) (by omega)); with_reducible exact S00)) (fail)
  have hwr : IntKind.i64.wrap (d x + 1) = d x + 1 := by rw [IntKind.wrap_i64]; omega
  rw [hwr, ← HW1.out]
  clear hwr s1 s2 s3 s4 s5 s6 s7 s8 S0 S00 cf cv0 cv1 cd ci ff fv fdd fii rf1 rv1 rd1 ri1
  go_wp2_with (at_builtin; refine wpList_append_lies _ rfl (.tmp 50) (.tmp 52) 26 rfl base 3 i3 (.int .i64 0) 1 8 Try.underlying26 hi3 hz30 hz31 hz32 rfl (by omega) _ l.length (qv l) rfl (W1 _) ⟨w1.heap.size, 0, none⟩ 1 1 [.int .i64 (u : Int)] rfl rfl N1 (by simp; rfl) (by omega) (by simp only [maxLen]; omega) (by omega) (by simp; omega) _ rfl ?_)
  intro g0 cap0 w2 hW2 hg2 hat2 _
  have G2 : Below base w1 w2 := by
    refine ⟨hg2.os, hg2.tape, hg2.output, Nat.le_trans (by simp) hg2.size, fun k hk => ?_⟩
    rw [hg2.block k (by simp; omega) (fun h => by have := (hq1.lt k h.symm).1; omega)]
    exact Below.heap_alloc w1 _ k (by omega)
  have nsm := rs.ne rm (by decide)
  have nsh := rs.ne rh (by decide)
  obtain ⟨gf2, rf2⟩ := rf2
  obtain ⟨gv2, rv2⟩ := rv2
  have rs2 := rs1.below G2 z6
  have B1 : Below B0 w w1 := by
    have h1 : Below B0 w wb := Only.below Ob (by omega) (by simp)
    have h2 : Below B0 wb w1 := O1.below (by omega) (by simp; omega)
    exact h1.trans h2
  have APT : Kept [sb, fb, vb, db, ib] q (.slice (some ⟨g0, 0, none⟩) (l.length + 1) cap0) w w2 :=
    ((((Kept.of_only Ob q).mono (by simp)).trans ((Kept.of_only O1 q).mono (fun k hk => by simp at hk ⊢; omega))).trans (((Kept.of_only (Only.alloc [] w1 _) q).trans (Kept.of_grown hg2 (by rcases hat2 with h | h; exact .inl h; exact .inr (by rw [World.size_alloc]; omega)))).mono (by simp)))
  have FIN : Hid (ReachP m B0 base mb sb fb vb db ib hb q giv N d i o l x u w (.returned (.tuple #[])) (w2.setCell ⟨sb, 0, none⟩ (.slice (some ⟨g0, 0, none⟩) (l.length + 1) cap0))) := by
    refine ⟨.slice (some ⟨g0, 0, none⟩) (l.length + 1) cap0, rfl, ⟨(rm1.below G2 z5).other sb _ (Ne.symm nsm) _, (rs2.set 0 (.slice (some ⟨g0, 0, none⟩) (l.length + 1) cap0)).ext (fun j hj => ?_), ⟨_, (rf2.below G2 z1).other sb _ (Ne.symm n1) _⟩, ⟨_, (rv2.below G2 z4).other sb _ (Ne.symm n2) _⟩, (rd2.below G2 z2).other sb _ (Ne.symm n3) _, (ri2.below G2 z3).other sb _ (Ne.symm n4) _, ⟨_, (rh1.below G2 z7).other sb _ (Ne.symm nsh) _, hh⟩, fd, fi, di⟩, ?_, ?_, APT.trans (Kept.of_only ((Only.refl _ w2).set sb 0 _ (.inl (by simp))) _)⟩
    · obtain rfl | rfl | rfl | rfl | rfl | rfl : j = 0 ∨ j = 1 ∨ j = 2 ∨ j = 3 ∨ j = 4 ∨ j = 5 := by omega
      all_goals rfl
    · have h := ownsRow_setCell_below hW2 (a := ⟨sb, 0, none⟩) z6 (.slice (some ⟨g0, 0, none⟩) (l.length + 1) cap0)
      have e : qv (l ++ [u]) = qv l ++ [Value.int .i64 (u : Int)] := by simp [qv]
      rw [e]; exact h
    · refine B1.trans ((G2.mono hb0).trans ?_)
      exact Only.below ((Only.refl [sb] w2).set sb 0 (.slice (some ⟨g0, 0, none⟩) (l.length + 1) cap0) (.inl (by simp))) (by have := G2.size; omega) (by simp; omega)
  have k2 : w2.cell? ⟨sb, 0, none⟩ = some q := rs2.cell (i := 0) (by omega)
  have f2 := rs2.frozen 0
  clear hW2 hg2 hat2 APT G2 rs2 rf2 rv2 rd2 ri2 rm1 rs1 rh1 W1 N1 hq1 hq k0 k0a B1 O1 Ob rm rs rf rv rd ri rh hh
  go_wp2
  go_end0
  exact FIN.out
end Go.Proofs.Qxb6602564a
