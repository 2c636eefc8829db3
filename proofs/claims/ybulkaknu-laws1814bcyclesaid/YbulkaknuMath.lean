namespace Go.Proofs.Ybulkaknu.Gr

/-- k steps of f. -/
def it (f : Nat → Nat) : Nat → Nat → Nat
  | 0, x => x
  | k + 1, x => f (it f k x)

theorem it_succ (f : Nat → Nat) (k x : Nat) : it f (k + 1) x = f (it f k x) := rfl
theorem it_zero (f : Nat → Nat) (x : Nat) : it f 0 x = x := rfl

theorem it_add (f : Nat → Nat) (a b x : Nat) : it f (a + b) x = it f a (it f b x) := by
  induction a with
  | zero => rw [Nat.zero_add]; rfl
  | succ a ih => rw [Nat.succ_add, it_succ, it_succ, ih]

theorem it_lt {f : Nat → Nat} {n : Nat} (hf : ∀ x, x < n → f x < n) (k : Nat) {x : Nat} (hx : x < n) : it f k x < n := by
  induction k with
  | zero => exact hx
  | succ k ih => exact hf _ ih

/-- a list of different numbers below n has at most n of them. -/
theorem nodup_le : ∀ (n : Nat) (l : List Nat), l.Nodup → (∀ x ∈ l, x < n) → l.length ≤ n
  | 0, l, _, h => by
    cases l with
    | nil => exact Nat.le_refl _
    | cons a t => exact absurd (h a (List.mem_cons_self)) (Nat.not_lt_zero _)
  | n + 1, l, hd, h => by
    have h1 : (l.erase n).Nodup := hd.erase n
    have h2 : ∀ x ∈ l.erase n, x < n := by
      intro x hx
      have h3 := List.mem_of_mem_erase hx
      have h4 := h x h3
      have h5 : x ≠ n := by
        intro e
        subst e
        exact (List.Nodup.mem_erase_iff hd).1 hx |>.1 rfl
      omega
    have h6 := nodup_le n (l.erase n) h1 h2
    have h7 : l.length ≤ (l.erase n).length + 1 := by
      rw [List.length_erase]
      split <;> omega
    omega

/-- the pigeonhole, for a function on numbers. -/
theorem pigeon (g : Nat → Nat) (n k : Nat) (hg : ∀ i, i < k → g i < n) (hk : n < k) : ∃ i j, i < j ∧ j < k ∧ g i = g j := by
  refine Classical.byContradiction fun hno => ?_
  have hinj : ∀ i j, i < j → j < k → g i ≠ g j := fun i j h1 h2 h3 => hno ⟨i, j, h1, h2, h3⟩
  have hnd : ((List.range k).map g).Nodup := by
    rw [List.Nodup, List.pairwise_map]
    refine List.Pairwise.imp_of_mem ?_ (List.pairwise_lt_range)
    intro a b _ hb hab
    exact hinj a b hab (List.mem_range.1 hb)
  have h := nodup_le n _ hnd (by
    intro x hx
    obtain ⟨i, hi, rfl⟩ := List.mem_map.1 hx
    exact hg i (List.mem_range.1 hi))
  rw [List.length_map, List.length_range] at h
  omega

/-- different steps: at most n of them. -/
theorem inj_le {f : Nat → Nat} {n : Nat} (hf : ∀ x, x < n → f x < n) {x : Nat} (hx : x < n) (k : Nat)
    (hinj : ∀ a b, a < b → b < k → it f a x ≠ it f b x) : k ≤ n := by
  refine Classical.byContradiction fun hno => ?_
  obtain ⟨i, j, hij, hj, he⟩ := pigeon (fun i => it f i x) n k (fun i _ => it_lt hf i hx) (by omega)
  exact hinj i j hij hj he

theorem it_mul {f : Nat → Nat} {p y : Nat} (h : it f p y = y) (q : Nat) : it f (p * q) y = y := by
  induction q with
  | zero => rfl
  | succ q ih => rw [Nat.mul_succ, it_add, h, ih]

theorem it_fixed {f : Nat → Nat} {c : Nat} (h : f c = c) (k : Nat) : it f k c = c := by
  induction k with
  | zero => rfl
  | succ k ih => rw [it_succ, ih, h]

/-- whoever comes to a root at all is there behind n steps. -/
theorem root_by {f : Nat → Nat} {n : Nat} (hf : ∀ x, x < n → f x < n) {x : Nat} (hx : x < n) {k : Nat} (hk : f (it f k x) = it f k x) :
    f (it f n x) = it f n x := by
  obtain ⟨i, j, hij, hj, he⟩ := pigeon (fun i => it f i x) n (n + 1) (fun i _ => it_lt hf i hx) (by omega)
  have he' : it f i x = it f j x := he
  have hp : it f (j - i) (it f i x) = it f i x := by
    rw [← it_add, show j - i + i = j from by omega, he']
  have h1 := it_mul hp (k + 1)
  have hge : k ≤ (j - i) * (k + 1) + i := by
    have : k + 1 ≤ (j - i) * (k + 1) := Nat.le_mul_of_pos_left _ (by omega)
    omega
  have h2 : it f i x = it f k x := by
    rw [← h1, ← it_add]
    rw [show (j - i) * (k + 1) + i = ((j - i) * (k + 1) + i - k) + k from by omega, it_add]
    exact it_fixed hk _
  have h3 : it f n x = it f k x := by
    rw [show n = (n - i) + i from by omega, it_add, h2]
    exact it_fixed hk _
  rw [h3, hk]

/-- a node on a cycle comes back within n steps. -/
theorem back_by {f : Nat → Nat} {n : Nat} (hf : ∀ x, x < n → f x < n) {x : Nat} (hx : x < n) {m : Nat} (hm : 1 ≤ m) (h : it f m x = x) :
    ∃ p, 1 ≤ p ∧ p ≤ n ∧ it f p x = x := by
  obtain ⟨i, j, hij, hj, he⟩ := pigeon (fun i => it f i x) n (n + 1) (fun i _ => it_lt hf i hx) (by omega)
  have he' : it f i x = it f j x := he
  refine ⟨j - i, by omega, by omega, ?_⟩
  have hq := it_mul h i
  have hge : i ≤ m * i := Nat.le_mul_of_pos_left _ hm
  have e1 : it f (m * i - i) (it f i x) = x := by
    rw [← it_add, show m * i - i + i = m * i from by omega, hq]
  have e2 : it f (m * i - i) (it f j x) = it f (j - i) x := by
    rw [← it_add, show m * i - i + j = (j - i) + m * i from by omega, it_add, hq]
  rw [← e2, ← he', e1]

/-- a node on a cycle that is no root never comes to a root. -/
theorem no_root {f : Nat → Nat} {x : Nat} {m : Nat} (hm : 1 ≤ m) (h : it f m x = x) (hne : f x ≠ x) (k : Nat) : f (it f k x) ≠ it f k x := by
  intro hk
  have hq := it_mul h k
  have hge : k ≤ m * k := Nat.le_mul_of_pos_left _ hm
  have : it f k x = x := by
    rw [← it_fixed hk (m * k - k), ← it_add, show m * k - k + k = m * k from by omega, hq]
  rw [this] at hk
  exact hne hk

/-- a root is reached. -/
def Roots (f : Nat → Nat) (y : Nat) : Prop := ∃ k, f (it f k y) = it f k y

theorem Roots.back {f : Nat → Nat} {x j k : Nat} (hjk : j ≤ k) (h : Roots f (it f k x)) : Roots f (it f j x) := by
  obtain ⟨m, hm⟩ := h
  refine ⟨m + (k - j), ?_⟩
  rw [← it_add] at hm ⊢
  rw [show m + (k - j) + j = m + k from by omega]
  exact hm

/-- what loopOf answers. -/
def Good (f : Nat → Nat) (n : Nat) (r : Int) : Prop :=
  (r = -1 ∧ ∀ x, x < n → Roots f x) ∨ ∃ z : Nat, z < n ∧ r = z ∧ f z ≠ z ∧ ∃ m, 1 ≤ m ∧ it f m z = z

def upd (st : Nat → Nat) (z v : Nat) : Nat → Nat := fun y => if y = z then v else st y

theorem upd_at (st : Nat → Nat) (z v : Nat) : upd st z v z = v := by simp [upd]
theorem upd_ne (st : Nat → Nat) {z v y : Nat} (h : y ≠ z) : upd st z v y = st y := by simp [upd, h]

/-- the first loop's state behind i rounds. -/
def st0 (f : Nat → Nat) (i : Nat) : Nat → Nat := fun y => if y < i ∧ f y = y then 2 else 0

theorem st0_hit {f : Nat → Nat} {i : Nat} (h : f i = i) : st0 f (i + 1) = upd (st0 f i) i 2 := by
  funext y
  unfold st0 upd
  by_cases e : y = i
  · subst e; simp [h]
  · by_cases h2 : y < i
    · simp [e, h2, show y < i + 1 from by omega]
    · simp [e, h2, show ¬ y < i + 1 from by omega]
theorem st0_miss {f : Nat → Nat} {i : Nat} (h : f i ≠ i) : st0 f (i + 1) = st0 f i := by
  funext y
  unfold st0
  by_cases e : y = i
  · subst e; simp [h]
  · by_cases h2 : y < i
    · simp [h2, show y < i + 1 from by omega]
    · simp [h2, show ¬ y < i + 1 from by omega]

structure Base (f : Nat → Nat) (n x : Nat) (st : Nat → Nat) : Prop where
  le : ∀ y, y < n → st y ≤ 2
  fixed : ∀ y, y < n → f y = y → st y = 2
  root : ∀ y, y < n → st y = 2 → Roots f y
  past : ∀ y, y < x → st y = 2

structure Head (f : Nat → Nat) (n x : Nat) (st : Nat → Nat) : Prop where
  base : Base f n x st
  free : ∀ y, y < n → st y ≠ 1

structure Walk1 (f : Nat → Nat) (n x k : Nat) (st : Nat → Nat) : Prop where
  base : Base f n x st
  on : ∀ y, y < n → (st y = 1 ↔ ∃ j, j < k ∧ y = it f j x)
  inj : ∀ a b, a < b → b < k → it f a x ≠ it f b x

structure Walk2 (f : Nat → Nat) (n x k i : Nat) (st : Nat → Nat) : Prop where
  base : Base f n x st
  on : ∀ y, y < n → (st y = 1 ↔ ∃ j, i ≤ j ∧ j < k ∧ y = it f j x)
  inj : ∀ a b, a < b → b < k → it f a x ≠ it f b x
  le : i ≤ k
  gone : ∀ j, j < i → st (it f j x) = 2
  last : st (it f k x) = 2

theorem head_start {f : Nat → Nat} {n : Nat} : Head f n 0 (st0 f n) := by
  refine ⟨⟨?_, ?_, ?_, ?_⟩, ?_⟩
  · intro y _; unfold st0; split <;> omega
  · intro y hy hf; unfold st0; simp [hy, hf]
  · intro y hy h
    unfold st0 at h
    by_cases e : y < n ∧ f y = y
    · exact ⟨0, by simpa [it] using e.2⟩
    · simp [e] at h
  · intro y h; omega
  · intro y _; unfold st0; split <;> omega

theorem walk1_start {f : Nat → Nat} {n x : Nat} {st : Nat → Nat} (h : Head f n x st) : Walk1 f n x 0 st :=
  ⟨h.base, fun y hy => ⟨fun e => absurd e (h.free y hy), fun ⟨j, hj, _⟩ => by omega⟩, fun a b _ hb => by omega⟩

theorem walk1_step {f : Nat → Nat} {n x k : Nat} {st : Nat → Nat} (hf : ∀ x, x < n → f x < n) (hx : x < n) (h : Walk1 f n x k st) (h0 : st (it f k x) = 0) :
    Walk1 f n x (k + 1) (upd st (it f k x) 1) := by
  have hz := it_lt hf k hx
  refine ⟨⟨?_, ?_, ?_, ?_⟩, ?_, ?_⟩
  · intro y hy
    by_cases e : y = it f k x
    · rw [e, upd_at]; omega
    · rw [upd_ne st e]; exact h.base.le y hy
  · intro y hy he
    by_cases e : y = it f k x
    · have := h.base.fixed y hy he; rw [e] at this; omega
    · rw [upd_ne st e]; exact h.base.fixed y hy he
  · intro y hy h2
    by_cases e : y = it f k x
    · rw [e, upd_at] at h2; omega
    · rw [upd_ne st e] at h2; exact h.base.root y hy h2
  · intro y hy
    by_cases e : y = it f k x
    · have := h.base.past y hy; rw [e] at this; omega
    · rw [upd_ne st e]; exact h.base.past y hy
  · intro y hy
    by_cases e : y = it f k x
    · rw [e, upd_at]; exact ⟨fun _ => ⟨k, by omega, rfl⟩, fun _ => rfl⟩
    · rw [upd_ne st e, h.on y hy]
      constructor
      · rintro ⟨j, hj, rfl⟩; exact ⟨j, by omega, rfl⟩
      · rintro ⟨j, hj, rfl⟩
        refine ⟨j, ?_, rfl⟩
        by_cases e2 : j = k
        · subst e2; exact absurd rfl e
        · omega
  · intro a b hab hb
    by_cases e : b = k
    · subst e
      intro he
      have : st (it f a x) = 1 := (h.on _ (it_lt hf a hx)).2 ⟨a, hab, rfl⟩
      rw [he] at this
      omega
    · exact h.inj a b hab (by omega)

theorem walk1_good {f : Nat → Nat} {n x k : Nat} {st : Nat → Nat} (hf : ∀ x, x < n → f x < n) (hx : x < n) (h : Walk1 f n x k st) (h1 : st (it f k x) = 1) :
    Good f n (it f k x : Nat) := by
  have hz := it_lt hf k hx
  refine .inr ⟨it f k x, hz, rfl, ?_, ?_⟩
  · intro e
    have := h.base.fixed _ hz e
    omega
  · obtain ⟨j, hj, e⟩ := (h.on _ hz).1 h1
    refine ⟨k - j, by omega, ?_⟩
    have : it f (k - j) (it f j x) = it f j x := by
      rw [← it_add, show k - j + j = k from by omega, e]
    rw [e]; exact this

theorem walk2_start {f : Nat → Nat} {n x k : Nat} {st : Nat → Nat} (hf : ∀ x, x < n → f x < n) (hx : x < n) (h : Walk1 f n x k st) (h0 : st (it f k x) ≠ 0) (h1 : st (it f k x) ≠ 1) :
    Walk2 f n x k 0 st := by
  have hz := it_lt hf k hx
  have := h.base.le _ hz
  exact ⟨h.base, fun y hy => (h.on y hy).trans ⟨fun ⟨j, a, b⟩ => ⟨j, by omega, a, b⟩, fun ⟨j, _, a, b⟩ => ⟨j, a, b⟩⟩, h.inj, by omega, fun j hj => by omega, by omega⟩

theorem walk2_step {f : Nat → Nat} {n x k i : Nat} {st : Nat → Nat} (hf : ∀ x, x < n → f x < n) (hx : x < n) (h : Walk2 f n x k i st) (h1 : st (it f i x) = 1) :
    Walk2 f n x k (i + 1) (upd st (it f i x) 2) := by
  have hz := it_lt hf i hx
  have hik : i < k := by
    have := h.le
    by_cases e : i = k
    · subst e; have := h.last; omega
    · omega
  have hroot : Roots f (it f i x) := Roots.back (Nat.le_of_lt hik) (h.base.root _ (it_lt hf k hx) h.last)
  refine ⟨⟨?_, ?_, ?_, ?_⟩, ?_, h.inj, by omega, ?_, ?_⟩
  · intro y hy
    by_cases e : y = it f i x
    · rw [e, upd_at]; omega
    · rw [upd_ne st e]; exact h.base.le y hy
  · intro y hy he
    by_cases e : y = it f i x
    · rw [e, upd_at]
    · rw [upd_ne st e]; exact h.base.fixed y hy he
  · intro y hy h2
    by_cases e : y = it f i x
    · rw [e]; exact hroot
    · rw [upd_ne st e] at h2; exact h.base.root y hy h2
  · intro y hy
    by_cases e : y = it f i x
    · rw [e, upd_at]
    · rw [upd_ne st e]; exact h.base.past y hy
  · intro y hy
    by_cases e : y = it f i x
    · rw [e, upd_at]
      constructor
      · intro e2; omega
      · rintro ⟨j, hj, hjk, he⟩; exact absurd he (h.inj i j (by omega) hjk)
    · rw [upd_ne st e, h.on y hy]
      constructor
      · rintro ⟨j, hj, hjk, rfl⟩
        refine ⟨j, ?_, hjk, rfl⟩
        by_cases e2 : i = j
        · subst e2; exact absurd rfl e
        · omega
      · rintro ⟨j, hj, hjk, he⟩; exact ⟨j, by omega, hjk, he⟩
  · intro j hj
    by_cases e : it f j x = it f i x
    · rw [e, upd_at]
    · rw [upd_ne st e]
      refine h.gone j ?_
      by_cases e2 : j = i
      · subst e2; exact absurd rfl e
      · omega
  · by_cases e : it f k x = it f i x
    · rw [e, upd_at]
    · rw [upd_ne st e]; exact h.last

theorem walk2_end {f : Nat → Nat} {n x k i : Nat} {st : Nat → Nat} (hf : ∀ x, x < n → f x < n) (hx : x < n) (h : Walk2 f n x k i st) (h1 : st (it f i x) ≠ 1) :
    Head f n (x + 1) st := by
  have hik : i = k := by
    have := h.le
    by_cases e : i < k
    · exact absurd ((h.on _ (it_lt hf i hx)).2 ⟨i, Nat.le_refl _, e, rfl⟩) h1
    · omega
  subst hik
  refine ⟨⟨h.base.le, h.base.fixed, h.base.root, ?_⟩, ?_⟩
  · intro y hy
    by_cases e : y = x
    · subst e
      by_cases e2 : i = 0
      · subst e2; exact h.last
      · exact h.gone 0 (by omega)
    · exact h.base.past y (by omega)
  · intro y hy e
    obtain ⟨j, a, b, _⟩ := (h.on y hy).1 e
    omega

theorem head_good {f : Nat → Nat} {n : Nat} {st : Nat → Nat} (h : Head f n n st) : Good f n (-1) :=
  .inl ⟨rfl, fun x hx => h.base.root x hx (h.base.past x hx)⟩

/-- how many of the first n are v. -/
def cnt (st : Nat → Nat) (v : Nat) : Nat → Nat
  | 0 => 0
  | n + 1 => cnt st v n + if st n = v then 1 else 0

theorem cnt_other {st : Nat → Nat} {v u z : Nat} (n : Nat) (hn : n ≤ z) : cnt (upd st z u) v n = cnt st v n := by
  induction n with
  | zero => rfl
  | succ n ih => simp only [cnt]; rw [ih (by omega), upd_ne st (by omega)]

theorem cnt_upd {st : Nat → Nat} {v u z : Nat} (n : Nat) (hz : z < n) (hv : st z = v) (hu : u ≠ v) : cnt (upd st z u) v n + 1 = cnt st v n := by
  induction n with
  | zero => omega
  | succ n ih =>
    simp only [cnt]
    by_cases e : z = n
    · subst e
      rw [cnt_other z (Nat.le_refl _), upd_at, hv]
      simp [hu]
    · rw [← ih (by omega), upd_ne st (by omega)]
      omega

/-- what the law's own loop over all nodes finds. -/
def Some (f : Nat → Nat) (n : Nat) : Nat → Bool
  | 0 => false
  | x + 1 => Some f n x || decide (f (it f n x) ≠ it f n x)

theorem some_iff {f : Nat → Nat} {n : Nat} (m : Nat) : Some f n m = true ↔ ∃ x, x < m ∧ f (it f n x) ≠ it f n x := by
  induction m with
  | zero => simp [Some]
  | succ m ih =>
    rw [Some, Bool.or_eq_true, ih, decide_eq_true_iff]
    constructor
    · rintro (⟨x, hx, h⟩ | h)
      · exact ⟨x, by omega, h⟩
      · exact ⟨m, by omega, h⟩
    · rintro ⟨x, hx, h⟩
      by_cases e : x = m
      · subst e; exact .inr h
      · exact .inl ⟨x, by omega, h⟩

theorem good_none {f : Nat → Nat} {n : Nat} (hf : ∀ x, x < n → f x < n) (h : ∀ x, x < n → Roots f x) : Some f n n = false := by
  rw [Bool.eq_false_iff]
  intro e
  obtain ⟨x, hx, hne⟩ := (some_iff n).1 e
  obtain ⟨k, hk⟩ := h x hx
  exact hne (root_by hf hx hk)

theorem good_some {f : Nat → Nat} {n z : Nat} (hz : z < n) (hne : f z ≠ z) {m : Nat} (hm : 1 ≤ m) (h : it f m z = z) : Some f n n = true :=
  (some_iff n).2 ⟨z, hz, no_root hm h hne n⟩

/-! ### cycleAt -/

structure Seen (f : Nat → Nat) (n x k : Nat) (sn : Nat → Bool) : Prop where
  on : ∀ y, y < n → (sn y = true ↔ ∃ j, j < k ∧ y = it f j x)
  inj : ∀ a b, a < b → b < k → it f a x ≠ it f b x

def updB (sn : Nat → Bool) (z : Nat) (v : Bool) : Nat → Bool := fun y => if y = z then v else sn y

theorem updB_at (sn : Nat → Bool) (z : Nat) (v : Bool) : updB sn z v z = v := by simp [updB]
theorem updB_ne (sn : Nat → Bool) {z : Nat} {v : Bool} {y : Nat} (h : y ≠ z) : updB sn z v y = sn y := by simp [updB, h]

theorem seen_start {f : Nat → Nat} {n x : Nat} : Seen f n x 0 (fun _ => false) :=
  ⟨fun y _ => ⟨fun e => by simp at e, fun ⟨j, hj, _⟩ => by omega⟩, fun a b _ hb => by omega⟩

theorem seen_step {f : Nat → Nat} {n x k : Nat} {sn : Nat → Bool} (hf : ∀ x, x < n → f x < n) (hx : x < n) (h : Seen f n x k sn) (h0 : sn (it f k x) = false) :
    Seen f n x (k + 1) (updB sn (it f k x) true) := by
  refine ⟨?_, ?_⟩
  · intro y hy
    by_cases e : y = it f k x
    · rw [e, updB_at]; exact ⟨fun _ => ⟨k, by omega, rfl⟩, fun _ => rfl⟩
    · rw [updB_ne sn e, h.on y hy]
      constructor
      · rintro ⟨j, hj, rfl⟩; exact ⟨j, by omega, rfl⟩
      · rintro ⟨j, hj, rfl⟩
        refine ⟨j, ?_, rfl⟩
        by_cases e2 : j = k
        · subst e2; exact absurd rfl e
        · omega
  · intro a b hab hb
    by_cases e : b = k
    · subst e
      intro he
      have : sn (it f a x) = true := (h.on _ (it_lt hf a hx)).2 ⟨a, hab, rfl⟩
      rw [he, h0] at this
      cases this
    · exact h.inj a b hab (by omega)

theorem seen_le {f : Nat → Nat} {n x k : Nat} {sn : Nat → Bool} (hf : ∀ x, x < n → f x < n) (hx : x < n) (h : Seen f n x k sn) : k ≤ n :=
  inj_le hf hx k h.inj

/-- c lies on a cycle. -/
def OnC (f : Nat → Nat) (c : Nat) : Prop := ∃ p, 1 ≤ p ∧ it f p c = c

/-- c is the first node on the walk from x that lies on a cycle: behind s steps. -/
structure First (f : Nat → Nat) (n x s c : Nat) : Prop where
  is : c = it f s x
  le : s < n
  on : OnC f c
  no : ∀ t, t < s → ¬ OnC f (it f t x)

theorem seen_end {f : Nat → Nat} {n x k : Nat} {sn : Nat → Bool} (hf : ∀ x, x < n → f x < n) (hx : x < n) (h : Seen f n x k sn) (h1 : sn (it f k x) = true) :
    ∃ s, First f n x s (it f k x) := by
  have hz := it_lt hf k hx
  have hkn := seen_le hf hx h
  obtain ⟨s, hs, he⟩ := (h.on _ hz).1 h1
  refine ⟨s, he, by omega, ⟨k - s, by omega, ?_⟩, ?_⟩
  · have : it f (k - s) (it f s x) = it f s x := by
      rw [← it_add, show k - s + s = k from by omega, he]
    rw [he]; exact this
  · rintro t ht ⟨p, hp, hc⟩
    -- far along the cycle: a step at or behind s
    have h1 := it_mul hc s
    have hge : s ≤ p * s := Nat.le_mul_of_pos_left _ hp
    rw [← it_add] at h1
    -- the step p * s + t, brought back below k by the period k - s
    have hback : ∀ m, s ≤ m → ∃ j, s ≤ j ∧ j < k ∧ it f m x = it f j x := by
      intro m
      induction m using Nat.strongRecOn with
      | _ m ih =>
        intro hm
        by_cases e : m < k
        · exact ⟨m, hm, e, rfl⟩
        · obtain ⟨j, a, b, c⟩ := ih (m - (k - s)) (by omega) (by omega)
          refine ⟨j, a, b, ?_⟩
          rw [← c]
          rw [show m = (m - k) + k from by omega, it_add, he, ← it_add]
          rw [show m - k + k - (k - s) = m - k + s from by omega]
    obtain ⟨j, ha, hb, hj⟩ := hback (p * s + t) (by omega)
    rw [hj] at h1
    exact h.inj t j (by omega) hb h1.symm

/-- the least way round. -/
structure Round (f : Nat → Nat) (c m : Nat) : Prop where
  pos : 1 ≤ m
  back : it f m c = c
  least : ∀ i, 1 ≤ i → i < m → it f i c ≠ c

theorem Round.inj {f : Nat → Nat} {c m : Nat} (h : Round f c m) : ∀ a b, a < b → b < m → it f a c ≠ it f b c := by
  intro a b hab hb he
  have h1 : it f (m - b) (it f a c) = it f (m - b) (it f b c) := by rw [he]
  rw [← it_add, ← it_add, show m - b + b = m from by omega, h.back] at h1
  exact h.least _ (by omega) (by omega) h1

theorem Round.le {f : Nat → Nat} {c m n : Nat} (h : Round f c m) (hf : ∀ x, x < n → f x < n) (hc : c < n) : m ≤ n :=
  inj_le hf hc m h.inj

/-- what has been gathered behind j steps of the second loop. -/
def path (f : Nat → Nat) (c j : Nat) : List Nat := (List.range j).map fun i => it f i c

theorem path_succ (f : Nat → Nat) (c j : Nat) : path f c (j + 1) = path f c j ++ [it f j c] := by
  simp [path, List.range_succ]
theorem path_length (f : Nat → Nat) (c j : Nat) : (path f c j).length = j := by simp [path]
theorem path_one (f : Nat → Nat) (c : Nat) : path f c 1 = [c] := by simp [path, it]

/-- what cycleAt hands back. -/
def cyc (f : Nat → Nat) (c m : Nat) : Nat → Nat := fun i => it f (m - 1 - i) c

theorem path_reverse (f : Nat → Nat) (c m i : Nat) (hi : i < m) : (path f c m).reverse[i]? = some (cyc f c m i) := by
  rw [List.getElem?_reverse (by rw [path_length]; exact hi), path_length]
  simp [path, cyc, List.getElem?_range (show m - 1 - i < m from by omega)]

theorem cyc_next {f : Nat → Nat} {c m i : Nat} (hi : i + 1 < m) : f (cyc f c m (i + 1)) = cyc f c m i := by
  unfold cyc
  rw [show m - 1 - i = m - 1 - (i + 1) + 1 from by omega]
  rfl

theorem cyc_last (f : Nat → Nat) (c m : Nat) : cyc f c m (m - 1) = c := by
  unfold cyc; rw [show m - 1 - (m - 1) = 0 from by omega]; rfl

theorem cyc_first {f : Nat → Nat} {c m : Nat} (h : Round f c m) : f (cyc f c m 0) = c := by
  unfold cyc
  have hp := h.pos
  have hb := h.back
  rw [show m = m - 1 - 0 + 1 from by omega] at hb
  exact hb

theorem cyc_lt {f : Nat → Nat} {n c m i : Nat} (hf : ∀ x, x < n → f x < n) (hc : c < n) : cyc f c m i < n := it_lt hf _ hc

theorem cyc_inj {f : Nat → Nat} {c m : Nat} (h : Round f c m) {i j : Nat} (hij : i < j) (hj : j < m) : cyc f c m i ≠ cyc f c m j := by
  unfold cyc
  exact fun e => h.inj (m - 1 - j) (m - 1 - i) (by omega) (by omega) e.symm

/-- the law's marks behind i rounds. -/
def marks (f : Nat → Nat) (c m i : Nat) : Nat → Bool := fun y => decide (∃ j, j < i ∧ cyc f c m j = y)

theorem marks_zero (f : Nat → Nat) (c m : Nat) : marks f c m 0 = fun _ => false := by
  funext y; simp [marks]

theorem marks_succ (f : Nat → Nat) (c m i : Nat) : marks f c m (i + 1) = updB (marks f c m i) (cyc f c m i) true := by
  funext y
  by_cases e : y = cyc f c m i
  · subst e
    rw [updB_at]
    unfold marks
    rw [decide_eq_true_iff]
    exact ⟨i, by omega, rfl⟩
  · rw [updB_ne _ e]
    unfold marks
    rw [Bool.eq_iff_iff, decide_eq_true_iff, decide_eq_true_iff]
    constructor
    · rintro ⟨j, hj, rfl⟩
      refine ⟨j, ?_, rfl⟩
      by_cases e2 : j = i
      · subst e2; exact absurd rfl e
      · omega
    · rintro ⟨j, hj, rfl⟩; exact ⟨j, by omega, rfl⟩

theorem marks_new {f : Nat → Nat} {c m i : Nat} (h : Round f c m) (hi : i < m) : marks f c m i (cyc f c m i) = false := by
  unfold marks
  rw [decide_eq_false_iff_not]
  rintro ⟨j, hj, he⟩
  exact cyc_inj h hj hi he

/-- 'zzs1814boncycle': did one of the first i steps behind the first come back? -/
theorem onC_by {f : Nat → Nat} {n c : Nat} (hf : ∀ x, x < n → f x < n) (hc : c < n) : OnC f c ↔ ∃ i, i < n ∧ it f (i + 1) c = c := by
  constructor
  · rintro ⟨p, hp, h⟩
    obtain ⟨q, a, b, e⟩ := back_by hf hc hp h
    exact ⟨q - 1, by omega, by rw [show q - 1 + 1 = q from by omega]; exact e⟩
  · rintro ⟨i, _, h⟩; exact ⟨i + 1, by omega, h⟩

end Go.Proofs.Ybulkaknu.Gr
