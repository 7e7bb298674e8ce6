/-
  THE SEARCH BY A QUEUE ANSWERS THE LEAST LEVEL: no Go in sight.
-/
import Derived.Test.Qxb6602564aLyHit
namespace Go.Proofs.Qxb6602564a
set_option linter.unusedVariables false

/-- v is another unit of the list of a partition that x holds and masters. -/
def Rv (m : M) (x v : Nat) : Prop := ∃ i, i < (m.f5 (x + 1)).toNat - (m.f5 x).toNat ∧ m.f0 (m.f4 ((m.f5 x).toNat + i)).toNat = (x : Int) ∧ ∃ j, j < m.k.toNat ∧ v = (m.f6 ((m.f4 ((m.f5 x).toNat + i)).toNat * m.k.toNat + j)).toNat ∧ v ≠ x
/-- u can give one up on v's node. -/
def HubU (m : M) (v u : Nat) : Prop := ∃ k, k < m.un (m.f1 v).toNat ∧ u = (m.uf (m.f1 v).toNat k).toNat ∧ give m u = true
/-- x hands on to u. -/
def E (m : M) (x u : Nat) : Prop := ∃ v, Rv m x v ∧ (u = v ∨ (take m v = true ∧ HubU m v u))
/-- x's hand-over ends a chain. -/
def Hit (m : M) (lo hi : Int) (x : Nat) : Prop := ∃ v, Rv m x v ∧ take m v = true ∧ hasP lo hi (m.f9 (m.f1 v).toNat) = true
/-- Reached in at most L hand-overs. -/
def A (m : M) (flo fhi : Int) : Nat → Nat → Prop
  | 0, u => u ∈ givers m flo fhi m.n9
  | L + 1, u => A m flo fhi L u ∨ ∃ x, A m flo fhi L x ∧ E m x u
theorem A.mono {m : M} {flo fhi : Int} {u L : Nat} (h : A m flo fhi L u) : ∀ K, L ≤ K → A m flo fhi K u
  | 0, hk => by rwa [show L = 0 by omega] at h
  | K + 1, hk => by
    by_cases e : L = K + 1
    · rwa [e] at h
    · exact .inl (A.mono h K (by omega))
def HitL (m : M) (flo fhi lo hi : Int) (L : Nat) : Prop := ∃ x, A m flo fhi L x ∧ Hit m lo hi x
/-- a is the answer. -/
def Ans (m : M) (flo fhi lo hi : Int) (a : Int) : Prop :=
  (∃ L : Nat, a = (L : Int) + 1 ∧ HitL m flo fhi lo hi L ∧ ∀ K, K < L → ¬ HitL m flo fhi lo hi K) ∨ (a = 0 ∧ ∀ L, ¬ HitL m flo fhi lo hi L)
theorem Ans.unique {m : M} {flo fhi lo hi a b : Int} (h : Ans m flo fhi lo hi a) (g : Ans m flo fhi lo hi b) : a = b := by
  rcases h with ⟨L, rfl, h1, h2⟩ | ⟨rfl, h1⟩ <;> rcases g with ⟨K, rfl, g1, g2⟩ | ⟨rfl, g1⟩
  · by_cases c : L < K
    · exact absurd h1 (g2 L c)
    · by_cases d : K < L
      · exact absurd g1 (h2 K d)
      · rw [show L = K by omega]
  · exact absurd h1 (g1 L)
  · exact absurd g1 (h1 K)
  · rfl
theorem Rv_lt {m : M} (hW : WF m) {x v : Nat} (hx : x < m.n1) (h : Rv m x v) : v < m.n1 := by
  obtain ⟨i, hi, _, j, hj, rfl, _⟩ := h
  have h1 := hW.uh x hx
  have h2 := hW.ho ((m.f5 x).toNat + i) (by omega)
  obtain ⟨e1, e2⟩ := hW.ek (by omega)
  have h3 : m.k.toNat = m.n6 / m.n0 := by omega
  have h4 : m.n0 * m.k.toNat = m.n6 := by rw [h3]; exact Nat.mul_div_cancel' (Nat.dvd_of_mod_eq_zero e1)
  have h5 : (m.f4 ((m.f5 x).toNat + i)).toNat * m.k.toNat + m.k.toNat ≤ m.n6 := by
    rw [← h4, ← Nat.succ_mul]
    exact Nat.mul_le_mul_right _ (by omega)
  have h6 := hW.re ((m.f4 ((m.f5 x).toNat + i)).toNat * m.k.toNat + j) (by omega)
  omega
theorem E_lt {m : M} (hW : WF m) {x u : Nat} (hx : x < m.n1) (h : E m x u) : u < m.n1 := by
  obtain ⟨v, hv, rfl | ⟨_, k, hk, rfl, _⟩⟩ := h
  · exact Rv_lt hW hx hv
  · have h1 := hW.un v (Rv_lt hW hx hv)
    have h2 := hW.uu (m.f1 v).toNat (by omega) k hk
    omega
/-- What holds while x, entry h of the queue, is worked on. -/
structure Base (m : M) (flo fhi lo hi : Int) (h x : Nat) (s : Stt) : Prop where
  bh : s.q[h]? = some x
  b1 : ∀ (i j y z : Nat), s.q[i]? = some y → s.q[j]? = some z → i ≤ j → s.dep y ≤ s.dep z
  b2 : ∀ y, y ∈ s.q → s.dep y ≤ s.dep x + 1
  b3 : ∀ u, s.rc u = true → 0 ≤ s.dep u ∧ A m flo fhi (s.dep u).toNat u
  b4 : ∀ u, A m flo fhi 0 u → s.rc u = true ∧ s.dep u = 0
  b5 : ∀ (i y u : Nat), i < h → s.q[i]? = some y → E m y u → s.rc u = true ∧ s.dep u ≤ s.dep y + 1
  b6 : ∀ u, s.rc u = true → u ∈ s.q
  b7 : ∀ (i y : Nat), i < h → s.q[i]? = some y → ¬ Hit m lo hi y
  b8 : ∀ n, s.op n = true → ∀ k, k < m.un n → give m (m.uf n k).toNat = true → s.rc (m.uf n k).toNat = true
  b9 : ∀ y, y ∈ s.q → s.rc y = true
  bf : Fine m s
  wf : WF m
theorem Base.rx {m : M} {flo fhi lo hi : Int} {h x : Nat} {s : Stt} (b : Base m flo fhi lo hi h x s) : s.rc x = true := b.b9 x (List.mem_of_getElem? b.bh)
theorem Base.reach {m : M} {flo fhi lo hi : Int} {h x u : Nat} {s : Stt} (b : Base m flo fhi lo hi h x s) (hu : s.rc u = false) (hE : E m x u) : Base m flo fhi lo hi h x (s.reach x u) := by
  have hnq : u ∉ s.q := fun hm => by rw [b.b9 u hm] at hu; cases hu
  have hxu : x ≠ u := fun e => by rw [← e, b.rx] at hu; cases hu
  have hd : ∀ y, y ∈ s.q → (s.reach x u).dep y = s.dep y := fun y hy => by
    have : y ≠ u := fun e => hnq (e ▸ hy)
    simp [Stt.reach, this]
  have hdr : ∀ y, s.rc y = true → (s.reach x u).dep y = s.dep y := fun y hy => hd y (b.b6 y hy)
  have hdu : (s.reach x u).dep u = s.dep x + 1 := by simp [Stt.reach]
  have hrc : ∀ y, (s.reach x u).rc y = true ↔ y = u ∨ s.rc y = true := fun y => by
    by_cases e : y = u <;> simp [Stt.reach, e]
  have hq : (s.reach x u).q = s.q ++ [u] := rfl
  have hlen : h < s.q.length := (List.getElem?_eq_some_iff.1 b.bh).1
  have hold : ∀ i, i < s.q.length → (s.reach x u).q[i]? = s.q[i]? := fun i hi => by rw [hq, List.getElem?_append_left hi]
  have hget : ∀ (i y : Nat), (s.reach x u).q[i]? = some y → (i < s.q.length ∧ s.q[i]? = some y ∧ y ∈ s.q) ∨ (i = s.q.length ∧ y = u) := fun i y hy => by
    by_cases c : i < s.q.length
    · rw [hold i c] at hy; exact .inl ⟨c, hy, List.mem_of_getElem? hy⟩
    · rw [hq, List.getElem?_append_right (by omega)] at hy
      have h0 : i - s.q.length = 0 := by
        by_cases c2 : i - s.q.length = 0
        · exact c2
        · rw [List.getElem?_eq_none (by simp; omega)] at hy; cases hy
      rw [h0] at hy
      exact .inr ⟨by omega, by simpa using hy.symm⟩
  have hx3 := b.b3 x b.rx
  refine ⟨by rw [hold h hlen]; exact b.bh, fun i j y z hi hj hij => ?_, fun y hy => ?_, fun y hy => ?_, fun y hy => ?_, fun i y v hi hy hv => ?_, fun y hy => ?_, fun i y hi hy => ?_, fun n hn k hk hg => ?_, fun y hy => ?_, b.bf.reach b.rx (E_lt b.wf (b.bf.inq x (List.mem_of_getElem? b.bh)).2 hE) hu, b.wf⟩
  · rcases hget i y hi with ⟨c1, c2, c3⟩ | ⟨c1, rfl⟩
    · rcases hget j z hj with ⟨d1, d2, d3⟩ | ⟨d1, rfl⟩
      · rw [hd y c3, hd z d3]; exact b.b1 i j y z c2 d2 hij
      · rw [hd y c3, hdu]; exact b.b2 y c3
    · rcases hget j z hj with ⟨d1, d2, d3⟩ | ⟨d1, rfl⟩
      · omega
      · exact Int.le_refl _
  · rw [hdr x b.rx]
    rw [hq, List.mem_append] at hy
    rcases hy with hy | hy
    · rw [hd y hy]; exact b.b2 y hy
    · obtain rfl : y = u := by simpa using hy
      rw [hdu]; exact Int.le_refl _
  · rcases (hrc y).1 hy with rfl | hy
    · rw [hdu]
      refine ⟨by omega, ?_⟩
      rw [show (s.dep x + 1).toNat = (s.dep x).toNat + 1 by omega]
      exact .inr ⟨x, hx3.2, hE⟩
    · rw [hdr y hy]; exact b.b3 y hy
  · have h4 := b.b4 y hy
    exact ⟨(hrc y).2 (.inr h4.1), by rw [hdr y h4.1]; exact h4.2⟩
  · rw [hold i (by omega)] at hy
    have h5 := b.b5 i y v hi hy hv
    refine ⟨(hrc v).2 (.inr h5.1), ?_⟩
    rw [hdr v h5.1, hd y (List.mem_of_getElem? hy)]
    exact h5.2
  · rw [hq, List.mem_append]
    rcases (hrc y).1 hy with rfl | hy
    · exact .inr (by simp)
    · exact .inl (b.b6 y hy)
  · rw [hold i (by omega)] at hy
    exact b.b7 i y hi hy
  · exact (hrc _).2 (.inr (b.b8 n hn k hk hg))
  · rw [hq, List.mem_append] at hy
    rcases hy with hy | hy
    · exact (hrc y).2 (.inr (b.b9 y hy))
    · exact (hrc y).2 (.inl (by simpa using hy))
/-- s goes on to t: what was reached stays so. -/
def Ext (s t : Stt) : Prop := ∀ u, s.rc u = true → t.rc u = true
theorem Ext.refl (s : Stt) : Ext s s := fun _ h => h
theorem Ext.trans {s t r : Stt} (h : Ext s t) (g : Ext t r) : Ext s r := fun u hu => g u (h u hu)
theorem Ext.reach (s : Stt) (x u : Nat) : Ext s (s.reach x u) := fun y hy => reachS_keeps hy
where reachS_keeps {s : Stt} {x u y : Nat} (h : s.rc y = true) : (s.reach x u).rc y = true := by simp only [Stt.reach]; split <;> simp [h]
/-- The hub's units. -/
theorem Base.hub {m : M} {flo fhi lo hi : Int} {h x v : Nat} {s : Stt} (b : Base m flo fhi lo hi h x s) (hv : Rv m x v) (ht : take m v = true) : ∀ i, i ≤ m.un (m.f1 v).toNat →
    Base m flo fhi lo hi h x (hubS m x (m.f1 v).toNat s i) ∧ Ext s (hubS m x (m.f1 v).toNat s i) ∧ ∀ k, k < i → give m (m.uf (m.f1 v).toNat k).toNat = true → (hubS m x (m.f1 v).toNat s i).rc (m.uf (m.f1 v).toNat k).toNat = true
  | 0, _ => ⟨b, Ext.refl _, fun k hk => by omega⟩
  | i + 1, hi => by
    obtain ⟨b', e', d'⟩ := Base.hub b hv ht i (by omega)
    simp only [hubS]
    split
    · rename_i hc
      simp only [Bool.and_eq_true, Bool.not_eq_true'] at hc
      refine ⟨b'.reach hc.2 ⟨v, hv, .inr ⟨ht, i, by omega, rfl, hc.1⟩⟩, e'.trans (Ext.reach _ _ _), fun k hk hg => ?_⟩
      by_cases e : k = i
      · subst e; simp [Stt.reach]
      · exact Ext.reach _ _ _ _ (d' k (by omega) hg)
    · rename_i hc
      refine ⟨b', e', fun k hk hg => ?_⟩
      by_cases e : k = i
      · subst e
        simp only [hg, Bool.true_and, Bool.not_eq_true, Bool.not_eq_false'] at hc
        exact hc
      · exact d' k (by omega) hg
theorem hubS_op (m : M) (x n : Nat) (s : Stt) (o : Nat → Bool) : ∀ i, hubS m x n { s with op := o } i = { hubS m x n s i with op := o } ∧ (hubS m x n s i).op = s.op
  | 0 => ⟨rfl, rfl⟩
  | i + 1 => by
    obtain ⟨h1, h2⟩ := hubS_op m x n s o i
    simp only [hubS, h1]
    split
    · exact ⟨rfl, h2⟩
    · exact ⟨rfl, h2⟩
theorem Base.open {m : M} {flo fhi lo hi : Int} {h x : Nat} {s : Stt} (b : Base m flo fhi lo hi h x s) (n : Nat) (hn : ∀ k, k < m.un n → give m (m.uf n k).toNat = true → s.rc (m.uf n k).toNat = true) (o : Nat → Bool) (ho : ∀ j, o j = true → j = n ∨ s.op j = true) : Base m flo fhi lo hi h x { s with op := o } := by
  refine ⟨b.bh, b.b1, b.b2, b.b3, b.b4, b.b5, b.b6, b.b7, fun j hj k hk hg => ?_, b.b9, b.bf.open _, b.wf⟩
  rcases ho j hj with rfl | h
  · exact hn k hk hg
  · exact b.b8 j h k hk hg
/-- What has been done with v: it is reached, and if it can take one, so are its hub's givers, and it ends no chain. -/
def Done (m : M) (lo hi : Int) (v : Nat) (t : Stt) : Prop := t.rc v = true ∧ (take m v = true → (∀ u, HubU m v u → t.rc u = true) ∧ hasP lo hi (m.f9 (m.f1 v).toNat) = false)
theorem Done.ext {m : M} {lo hi : Int} {v : Nat} {s t : Stt} (h : Done m lo hi v s) (e : Ext s t) : Done m lo hi v t := ⟨e _ h.1, fun ht => ⟨fun u hu => e _ ((h.2 ht).1 u hu), (h.2 ht).2⟩⟩
theorem Base.repl {m : M} {flo fhi lo hi : Int} {h x v : Nat} {s : Stt} (b : Base m flo fhi lo hi h x s) (hv : Rv m x v) (hvx : v ≠ x) :
    (∀ t, replS m lo hi x v s = .inl t → Base m flo fhi lo hi h x t ∧ Ext s t ∧ Done m lo hi v t) ∧ (∀ a, replS m lo hi x v s = .inr a → a = s.dep x + 1 ∧ Hit m lo hi x) := by
  have hval : replS m lo hi x v s = if (take m v && hasP lo hi (m.f9 (m.f1 v).toNat)) = true then .inr (s.dep x + 1) else if (take m v && !(if s.rc v then s else s.reach x v).op (m.f1 v).toNat) = true then .inl (hubS m x (m.f1 v).toNat { (if s.rc v then s else s.reach x v) with op := fun j => if j = (m.f1 v).toNat then true else (if s.rc v then s else s.reach x v).op j } (m.un (m.f1 v).toNat)) else .inl (if s.rc v then s else s.reach x v) := by
    simp only [replS, if_neg hvx]
  have h1 : Base m flo fhi lo hi h x (if s.rc v then s else s.reach x v) ∧ Ext s (if s.rc v then s else s.reach x v) ∧ (if s.rc v then s else s.reach x v).rc v = true := by
    by_cases hr : s.rc v = true
    · rw [if_pos hr]; exact ⟨b, Ext.refl _, hr⟩
    · rw [if_neg hr]; exact ⟨b.reach (by simpa using hr) ⟨v, hv, .inl rfl⟩, Ext.reach _ _ _, by simp [Stt.reach]⟩
  rw [hval]
  clear hval
  generalize (if s.rc v then s else s.reach x v) = s1 at *
  obtain ⟨c1, c2, c3⟩ := h1
  constructor
  · intro t ht
    split at ht
    · cases ht
    · rename_i hnh
      split at ht
      · rename_i hop
        injection ht with ht
        simp only [Bool.and_eq_true, Bool.not_eq_true'] at hop
        obtain ⟨b', e', d'⟩ := c1.hub hv hop.1 (m.un (m.f1 v).toNat) (Nat.le_refl _)
        obtain ⟨o1, o2⟩ := hubS_op m x (m.f1 v).toNat s1 (fun j => if j = (m.f1 v).toNat then true else s1.op j) (m.un (m.f1 v).toNat)
        rw [o1] at ht
        subst ht
        refine ⟨b'.open (m.f1 v).toNat d' _ (fun j hj => ?_), c2.trans e', e' _ c3, fun htk => ⟨fun u hu => ?_, ?_⟩⟩
        · by_cases e : j = (m.f1 v).toNat
          · exact .inl e
          · simp only [e, if_false] at hj; exact .inr (by rw [o2]; exact hj)
        · obtain ⟨k, hk, rfl, hg⟩ := hu
          exact d' k hk hg
        · rw [htk] at hnh; simpa using hnh
      · rename_i hop
        injection ht with ht
        subst ht
        refine ⟨c1, c2, c3, fun htk => ⟨fun u hu => ?_, ?_⟩⟩
        · rw [htk] at hop
          simp only [Bool.true_and, Bool.not_eq_true, Bool.not_eq_false'] at hop
          obtain ⟨k, hk, rfl, hg⟩ := hu
          exact c1.b8 _ hop k hk hg
        · rw [htk] at hnh; simpa using hnh
  · intro a ha
    split at ha
    · rename_i hh
      injection ha with ha
      simp only [Bool.and_eq_true] at hh
      exact ⟨ha.symm, v, hv, hh.1, hh.2⟩
    · split at ha <;> cases ha
/-- The replicas of partition p: entry i of what x holds. -/
theorem Base.repls {m : M} {flo fhi lo hi : Int} {h x i : Nat} {s : Stt} (b : Base m flo fhi lo hi h x s) (hi' : i < (m.f5 (x + 1)).toNat - (m.f5 x).toNat) (hx : m.f0 (m.f4 ((m.f5 x).toNat + i)).toNat = (x : Int)) : ∀ j, j ≤ m.k.toNat →
    (∀ t, replsS m lo hi x (m.f4 ((m.f5 x).toNat + i)).toNat s j = .inl t → Base m flo fhi lo hi h x t ∧ Ext s t ∧ t.dep x = s.dep x ∧ ∀ k, k < j → (m.f6 ((m.f4 ((m.f5 x).toNat + i)).toNat * m.k.toNat + k)).toNat ≠ x → Done m lo hi (m.f6 ((m.f4 ((m.f5 x).toNat + i)).toNat * m.k.toNat + k)).toNat t) ∧
    (∀ a, replsS m lo hi x (m.f4 ((m.f5 x).toNat + i)).toNat s j = .inr a → a = s.dep x + 1 ∧ Hit m lo hi x)
  | 0, _ => ⟨fun t ht => by simp only [replsS] at ht; injection ht with ht; subst ht; exact ⟨b, Ext.refl _, rfl, fun k hk => by omega⟩, fun a ha => by simp only [replsS] at ha; cases ha⟩
  | j + 1, hj => by
    obtain ⟨ih1, ih2⟩ := Base.repls b hi' hx j (by omega)
    simp only [replsS]
    cases hr : replsS m lo hi x (m.f4 ((m.f5 x).toNat + i)).toNat s j with
    | inr a =>
      simp only
      refine ⟨fun t ht => (by cases ht), fun a' ha => ?_⟩
      injection ha with ha
      subst ha
      exact ih2 a hr
    | inl t =>
      simp only
      obtain ⟨c1, c2, c3, c4⟩ := ih1 t hr
      by_cases hvx : (m.f6 ((m.f4 ((m.f5 x).toNat + i)).toNat * m.k.toNat + j)).toNat = x
      · rw [show replS m lo hi x (m.f6 ((m.f4 ((m.f5 x).toNat + i)).toNat * m.k.toNat + j)).toNat t = .inl t by simp only [replS, if_pos hvx]]
        refine ⟨fun t' ht => ?_, fun a ha => by cases ha⟩
        injection ht with ht
        subst ht
        refine ⟨c1, c2, c3, fun k hk hne => ?_⟩
        by_cases e : k = j
        · subst e; exact absurd hvx hne
        · exact c4 k (by omega) hne
      · have hRv : Rv m x (m.f6 ((m.f4 ((m.f5 x).toNat + i)).toNat * m.k.toNat + j)).toNat := ⟨i, hi', hx, j, by omega, rfl, hvx⟩
        obtain ⟨d1, d2⟩ := c1.repl hRv hvx
        refine ⟨fun t' ht => ?_, fun a ha => ?_⟩
        · obtain ⟨e1, e2, e3⟩ := d1 t' ht
          refine ⟨e1, c2.trans e2, ((Keeps.repl c1.rx ht).2).trans c3, fun k hk hne => ?_⟩
          by_cases e : k = j
          · subst e; exact e3
          · exact (c4 k (by omega) hne).ext e2
        · have := d2 a ha
          rw [c3] at this; exact this
/-- What x holds, the first i partitions. -/
theorem Base.parts {m : M} {flo fhi lo hi : Int} {h x : Nat} {s : Stt} (b : Base m flo fhi lo hi h x s) : ∀ i, i ≤ (m.f5 (x + 1)).toNat - (m.f5 x).toNat →
    (∀ t, partsS m lo hi x s i = .inl t → Base m flo fhi lo hi h x t ∧ Ext s t ∧ t.dep x = s.dep x ∧ ∀ l, l < i → m.f0 (m.f4 ((m.f5 x).toNat + l)).toNat = (x : Int) → ∀ k, k < m.k.toNat → (m.f6 ((m.f4 ((m.f5 x).toNat + l)).toNat * m.k.toNat + k)).toNat ≠ x → Done m lo hi (m.f6 ((m.f4 ((m.f5 x).toNat + l)).toNat * m.k.toNat + k)).toNat t) ∧
    (∀ a, partsS m lo hi x s i = .inr a → a = s.dep x + 1 ∧ Hit m lo hi x)
  | 0, _ => ⟨fun t ht => by simp only [partsS] at ht; injection ht with ht; subst ht; exact ⟨b, Ext.refl _, rfl, fun k hk => by omega⟩, fun a ha => by simp only [partsS] at ha; cases ha⟩
  | i + 1, hi' => by
    obtain ⟨ih1, ih2⟩ := Base.parts b i (by omega)
    simp only [partsS]
    cases hr : partsS m lo hi x s i with
    | inr a =>
      simp only
      refine ⟨fun t ht => (by cases ht), fun a' ha => ?_⟩
      injection ha with ha
      subst ha
      exact ih2 a hr
    | inl t =>
      simp only
      obtain ⟨c1, c2, c3, c4⟩ := ih1 t hr
      by_cases hx : m.f0 (m.f4 ((m.f5 x).toNat + i)).toNat = (x : Int)
      · rw [if_pos hx]
        obtain ⟨d1, d2⟩ := c1.repls (by omega) hx m.k.toNat (Nat.le_refl _)
        refine ⟨fun t' ht => ?_, fun a ha => ?_⟩
        · obtain ⟨e1, e2, e3, e4⟩ := d1 t' ht
          refine ⟨e1, c2.trans e2, e3.trans c3, fun l hl hlx k hk hne => ?_⟩
          by_cases e : l = i
          · subst e; exact e4 k hk hne
          · exact (c4 l (by omega) hlx k hk hne).ext e2
        · have := d2 a ha
          rw [c3] at this; exact this
      · rw [if_neg hx]
        refine ⟨fun t' ht => ?_, fun a ha => by cases ha⟩
        injection ht with ht
        subst ht
        refine ⟨c1, c2, c3, fun l hl hlx k hk hne => ?_⟩
        by_cases e : l = i
        · subst e; exact absurd hlx hx
        · exact c4 l (by omega) hlx k hk hne
/-- What holds between two entries of the queue: h of them are done. -/
structure HI (m : M) (flo fhi lo hi : Int) (h : Nat) (s : Stt) : Prop where
  b1 : ∀ (i j y z : Nat), s.q[i]? = some y → s.q[j]? = some z → i ≤ j → s.dep y ≤ s.dep z
  b2 : ∀ y z, y ∈ s.q → s.q[h]? = some z → s.dep y ≤ s.dep z + 1
  b3 : ∀ u, s.rc u = true → 0 ≤ s.dep u ∧ A m flo fhi (s.dep u).toNat u
  b4 : ∀ u, A m flo fhi 0 u → s.rc u = true ∧ s.dep u = 0
  b5 : ∀ (i y u : Nat), i < h → s.q[i]? = some y → E m y u → s.rc u = true ∧ s.dep u ≤ s.dep y + 1
  b6 : ∀ u, s.rc u = true → u ∈ s.q
  b7 : ∀ (i y : Nat), i < h → s.q[i]? = some y → ¬ Hit m lo hi y
  b8 : ∀ n, s.op n = true → ∀ k, k < m.un n → give m (m.uf n k).toNat = true → s.rc (m.uf n k).toNat = true
  b9 : ∀ y, y ∈ s.q → s.rc y = true
  bf : Fine m s
theorem HI.start {m : M} (hW : WF m) (flo fhi lo hi : Int) : HI m flo fhi lo hi 0 (start m flo fhi) := by
  refine ⟨fun i j y z _ _ _ => Int.le_refl _, fun y z _ _ => by simp [Go.Proofs.Qxb6602564a.start], fun u hu => ⟨Int.le_refl _, ?_⟩, fun u hu => ⟨?_, rfl⟩, fun i y u hi => by omega, fun u hu => ?_, fun i y hi => by omega, fun n hn => ?_, fun y hy => ?_, start_fine hW flo fhi⟩
  · simpa [Go.Proofs.Qxb6602564a.start, A] using hu
  · simpa [Go.Proofs.Qxb6602564a.start, A] using hu
  · simpa [Go.Proofs.Qxb6602564a.start] using hu
  · simp [Go.Proofs.Qxb6602564a.start] at hn
  · simpa [Go.Proofs.Qxb6602564a.start] using hy
theorem HI.base {m : M} (hW : WF m) {flo fhi lo hi : Int} {h x : Nat} {s : Stt} (I : HI m flo fhi lo hi h s) (hx : s.q[h]? = some x) : Base m flo fhi lo hi h x s :=
  ⟨hx, I.b1, fun y hy => I.b2 y x hy hx, I.b3, I.b4, I.b5, I.b6, I.b7, I.b8, I.b9, I.bf, hW⟩
theorem HI.next {m : M} {flo fhi lo hi : Int} {h x : Nat} {t : Stt} (b : Base m flo fhi lo hi h x t) (hd : ∀ l, l < (m.f5 (x + 1)).toNat - (m.f5 x).toNat → m.f0 (m.f4 ((m.f5 x).toNat + l)).toNat = (x : Int) → ∀ k, k < m.k.toNat → (m.f6 ((m.f4 ((m.f5 x).toNat + l)).toNat * m.k.toNat + k)).toNat ≠ x → Done m lo hi (m.f6 ((m.f4 ((m.f5 x).toNat + l)).toNat * m.k.toNat + k)).toNat t) : HI m flo fhi lo hi (h + 1) t := by
  have hdone : ∀ v, Rv m x v → Done m lo hi v t := by
    rintro v ⟨l, hl, hlx, k, hk, rfl, hne⟩
    exact hd l hl hlx k hk hne
  refine ⟨b.b1, fun y z hy hz => ?_, b.b3, b.b4, fun i y u hi hy hE => ?_, b.b6, fun i y hi hy hH => ?_, b.b8, b.b9, b.bf⟩
  · have h1 := b.b1 h (h + 1) x z b.bh hz (by omega)
    have h2 := b.b2 y hy
    omega
  · by_cases e : i = h
    · subst e
      obtain rfl : x = y := by have := b.bh; rw [this] at hy; simpa using hy
      obtain ⟨v, hv, hu⟩ := hE
      have hdv := hdone v hv
      have hr : t.rc u = true := by
        rcases hu with rfl | ⟨ht, hu⟩
        · exact hdv.1
        · exact (hdv.2 ht).1 u hu
      exact ⟨hr, b.b2 u (b.b6 u hr)⟩
    · exact b.b5 i y u (by omega) hy hE
  · by_cases e : i = h
    · subst e
      obtain rfl : x = y := by have := b.bh; rw [this] at hy; simpa using hy
      obtain ⟨v, hv, ht, hh⟩ := hH
      have := ((hdone v hv).2 ht).2
      rw [this] at hh; cases hh
    · exact b.b7 i y (by omega) hy hH
theorem head_inv {m : M} (hW : WF m) (flo fhi lo hi : Int) : ∀ h s, headS m lo hi (start m flo fhi) h = .inl s → HI m flo fhi lo hi h s
  | 0, s, e => by
    simp only [headS] at e
    injection e with e
    subst e
    exact HI.start hW flo fhi lo hi
  | h + 1, s, e => by
    cases hr : headS m lo hi (start m flo fhi) h with
    | inr a => simp only [headS, hr] at e; cases e
    | inl t =>
      have I := head_inv hW flo fhi lo hi h t hr
      by_cases hq : h < t.q.length
      · rw [head_next hr hq] at e
        have b := I.base hW (x := t.q[h]) (by rw [List.getElem?_eq_getElem hq])
        obtain ⟨b', _, _, d'⟩ := (b.parts _ (Nat.le_refl _)).1 s e
        exact HI.next b' d'
      · simp only [headS, hr, hq, dif_neg, not_false_iff] at e
        injection e with e
        subst e
        refine ⟨I.b1, fun y z hy hz => ?_, I.b3, I.b4, fun i y u hi hy hE => ?_, I.b6, fun i y hi hy => ?_, I.b8, I.b9, I.bf⟩
        · rw [List.getElem?_eq_none (by omega)] at hz; cases hz
        · have := (List.getElem?_eq_some_iff.1 hy).1
          exact I.b5 i y u (by omega) hy hE
        · have := (List.getElem?_eq_some_iff.1 hy).1
          exact I.b7 i y (by omega) hy
theorem head_first {m : M} {lo hi : Int} {s0 : Stt} {a : Int} : ∀ k, headS m lo hi s0 k = .inr a → ∃ h s, headS m lo hi s0 h = .inl s ∧ ∃ hq : h < s.q.length, partsS m lo hi s.q[h] s ((m.f5 (s.q[h] + 1)).toNat - (m.f5 s.q[h]).toNat) = .inr a
  | 0, e => by simp only [headS] at e; cases e
  | k + 1, e => by
    cases hr : headS m lo hi s0 k with
    | inr b =>
      simp only [headS, hr] at e
      injection e with e
      subst e
      exact head_first k hr
    | inl t =>
      by_cases hq : k < t.q.length
      · rw [head_next hr hq] at e
        exact ⟨k, t, hr, hq, e⟩
      · simp only [headS, hr, hq, dif_neg, not_false_iff] at e; cases e
/-- Whatever lies below the level of entry h is done. -/
theorem HI.below {m : M} {flo fhi lo hi : Int} {h : Nat} {s : Stt} (I : HI m flo fhi lo hi h s) (D : Nat) (hD : ∀ i y, s.q[i]? = some y → s.dep y < (D : Int) → i < h) : ∀ L, L < D → ∀ u, A m flo fhi L u → s.rc u = true ∧ s.dep u ≤ (L : Int)
  | 0, _, u, hu => by have := I.b4 u hu; exact ⟨this.1, by omega⟩
  | L + 1, hL, u, hu => by
    rcases hu with hu | ⟨x, hx, hE⟩
    · have := HI.below I D hD L (by omega) u hu
      exact ⟨this.1, by omega⟩
    · have h1 := HI.below I D hD L (by omega) x hx
      obtain ⟨i, hi⟩ := List.mem_iff_getElem?.1 (I.b6 x h1.1)
      have h2 := I.b5 i x u (hD i x hi (by omega)) hi hE
      exact ⟨h2.1, by omega⟩
/-- THE LAW: the search by a queue answers the least level. -/
theorem ans_spec {m : M} (hW : WF m) (flo fhi lo hi : Int) : Ans m flo fhi lo hi (ans m flo fhi lo hi) := by
  cases hr : headS m lo hi (start m flo fhi) (m.n1 + sumU m m.n9) with
  | inl t =>
    have I := head_inv hW flo fhi lo hi _ t hr
    have hlen := I.bf.length
    have ea : ans m flo fhi lo hi = 0 := by simp only [ans, hr]
    rw [ea]
    refine .inr ⟨rfl, ?_⟩
    rintro L ⟨x, hx, hH⟩
    have h1 := I.below (L + 1) (fun i y hy _ => by have := (List.getElem?_eq_some_iff.1 hy).1; omega) L (by omega) x hx
    obtain ⟨i, hi⟩ := List.mem_iff_getElem?.1 (I.b6 x h1.1)
    exact I.b7 i x (by have := (List.getElem?_eq_some_iff.1 hi).1; omega) hi hH
  | inr a =>
    have ea : ans m flo fhi lo hi = a := by simp only [ans, hr]
    rw [ea]
    obtain ⟨h, s, hs, hq, hp⟩ := head_first _ hr
    have I := head_inv hW flo fhi lo hi h s hs
    have hx : s.q[h]? = some s.q[h] := by rw [List.getElem?_eq_getElem hq]
    generalize s.q[h] = x at *
    have b := I.base hW hx
    obtain ⟨e1, e2⟩ := (b.parts _ (Nat.le_refl _)).2 a hp
    have h3 := b.b3 x b.rx
    refine .inl ⟨(s.dep x).toNat, by omega, ⟨x, h3.2, e2⟩, ?_⟩
    rintro K hK ⟨y, hy, hH⟩
    have hlow : ∀ (i z : Nat), s.q[i]? = some z → s.dep z < (((s.dep x).toNat : Nat) : Int) → i < h := fun i z hz hlt => by
      by_cases c : i < h
      · exact c
      · have := b.b1 h i x z hx hz (by omega)
        omega
    have h1 := I.below (s.dep x).toNat hlow K hK y hy
    obtain ⟨i, hi⟩ := List.mem_iff_getElem?.1 (I.b6 y h1.1)
    exact I.b7 i y (hlow i y hi (by omega)) hi hH
end Go.Proofs.Qxb6602564a
