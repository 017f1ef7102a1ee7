/-
  PLAIN: the insertion into the order; the counts by length; the lifting; the assignment. Nothing of Go here.
-/
import Derived.Test.Qxb6601138aTr
namespace Go.Proofs.Qxb6601138a.Hf

/-! ### The order -/
structure Ord (c : Nat → Int) (o : Nat → Nat) (i : Nat) : Prop where
  rng : ∀ k, k < i → o k < i
  srt : ∀ a b, a < b → b < i → c (o a) < c (o b) ∨ (c (o a) = c (o b) ∧ o a < o b)
  sums : ∀ F : Nat → Int, sm (fun k => F (o k)) i = sm F i

theorem Ord.start (c : Nat → Int) (o : Nat → Nat) : Ord c o 0 := ⟨fun k h => by omega, fun a b _ h => by omega, fun F => rfl⟩

/-- In the midst of the insertion of i: place j is free. -/
structure Ins (c : Nat → Int) (o o' : Nat → Nat) (i j : Nat) : Prop where
  ji : j ≤ i
  lo : ∀ k, k < j → o' k = o k
  hi : ∀ k, j < k → k ≤ i → o' k = o (k - 1)
  gt : ∀ k, j ≤ k → k < i → c i < c (o k)

theorem Ins.start (c : Nat → Int) (o : Nat → Nat) (i : Nat) : Ins c o o i i := ⟨Nat.le_refl _, fun _ _ => rfl, fun k h1 h2 => by omega, fun k h1 h2 => by omega⟩
theorem Ins.step {c : Nat → Int} {o o' : Nat → Nat} {i j : Nat} (h : Ins c o o' i (j + 1)) (hg : c i < c (o' j)) : Ins c o (upd o' (j + 1) (o' j)) i j := by
  have ji := h.ji
  refine ⟨by omega, fun k hk => ?_, fun k h1 h2 => ?_, fun k h1 h2 => ?_⟩
  · rw [upd_ne (by omega)]; exact h.lo k (by omega)
  · by_cases e : k = j + 1
    · subst e; rw [upd_same, h.lo j (by omega)]; rfl
    · rw [upd_ne e]; exact h.hi k (by omega) h2
  · by_cases e : k = j
    · subst e; rw [← h.lo k (by omega)]; exact hg
    · exact h.gt k (by omega) h2

theorem sm_ins {f g : Nat → Int} {v : Int} {j : Nat} : ∀ i, j ≤ i → (∀ k, k < j → g k = f k) → g j = v → (∀ k, j < k → k ≤ i → g k = f (k - 1)) → sm g (i + 1) = sm f i + v := by
  intro i
  induction i with
  | zero =>
    intro hj h1 h2 h3
    have : j = 0 := by omega
    subst this
    simp [sm, h2]
  | succ i ih =>
    intro hj h1 h2 h3
    by_cases e : j = i + 1
    · subst e
      rw [sm_succ g, sm_congr (g := f) h1, h2]
    · rw [sm_succ g, ih (by omega) h1 h2 (fun k a b => h3 k a (by omega)), sm_succ, h3 (i + 1) (by omega) (by omega)]
      simp only [Nat.add_sub_cancel]
      omega

theorem Ins.done {c : Nat → Int} {o o' : Nat → Nat} {i j : Nat} (h : Ins c o o' i j) (ho : Ord c o i) (hs : j = 0 ∨ c (o' (j - 1)) ≤ c i) : Ord c (upd o' j i) (i + 1) := by
  have ji := h.ji
  have lo : ∀ k, k < j → upd o' j i k = o k := fun k hk => by rw [upd_ne (by omega)]; exact h.lo k hk
  have mid : upd o' j i j = i := upd_same _ _ _
  have hi : ∀ k, j < k → k ≤ i → upd o' j i k = o (k - 1) := fun k h1 h2 => by rw [upd_ne (by omega)]; exact h.hi k h1 h2
  have le : ∀ a, a < j → c (o a) ≤ c i := by
    intro a ha
    rcases hs with hs | hs
    · omega
    · rw [h.lo (j - 1) (by omega)] at hs
      by_cases e : a = j - 1
      · subst e; exact hs
      · have := ho.srt a (j - 1) (by omega) (by omega)
        omega
  refine ⟨fun k hk => ?_, fun a b hab hb => ?_, fun F => ?_⟩
  · rcases Nat.lt_trichotomy k j with h1 | h1 | h1
    · rw [lo k h1]; have := ho.rng k (by omega); omega
    · subst h1; rw [mid]; omega
    · rw [hi k h1 (by omega)]; have := ho.rng (k - 1) (by omega); omega
  · rcases Nat.lt_trichotomy b j with h1 | h1 | h1
    · rw [lo a (by omega), lo b h1]; exact ho.srt a b hab (by omega)
    · subst h1
      rw [lo a hab, mid]
      have h2 := le a hab
      have h3 := ho.rng a (by omega)
      omega
    · rw [hi b h1 (by omega)]
      rcases Nat.lt_trichotomy a j with h2 | h2 | h2
      · rw [lo a h2]; exact ho.srt a (b - 1) (by omega) (by omega)
      · subst h2; rw [mid]; exact Or.inl (h.gt (b - 1) (by omega) (by omega))
      · rw [hi a h2 (by omega)]; exact ho.srt (a - 1) (b - 1) (by omega) (by omega)
  · rw [sm_ins (f := fun k => F (o k)) (v := F i) i ji (fun k hk => by rw [lo k hk]) (by rw [mid]) (fun k h1 h2 => by rw [hi k h1 h2]), ho.sums F]
    rfl

theorem Ord.inj {c : Nat → Int} {o : Nat → Nat} {n a b : Nat} (h : Ord c o n) (ha : a < n) (hb : b < n) (e : o a = o b) : a = b := by
  rcases Nat.lt_trichotomy a b with h1 | h1 | h1
  · have := h.srt a b h1 hb; rw [e] at this; omega
  · exact h1
  · have := h.srt b a h1 ha; rw [e] at this; omega
theorem sm_pos_exists {f : Nat → Int} {n : Nat} (h : 0 < sm f n) : ∃ k, k < n ∧ 0 < f k := by
  induction n with
  | zero => simp [sm] at h
  | succ n ih =>
    rw [sm_succ] at h
    by_cases e : 0 < f n
    · exact ⟨n, by omega, e⟩
    · obtain ⟨k, h1, h2⟩ := ih (by omega)
      exact ⟨k, by omega, h2⟩
theorem sm_one (n s : Nat) : sm (fun x => if x = s then 1 else 0) n = if s < n then 1 else 0 := by
  induction n with
  | zero => rfl
  | succ n ih =>
    rw [sm_succ, ih]
    by_cases e : n = s
    · subst e; rw [if_neg (by omega), if_pos rfl, if_pos (by omega)]; omega
    · rw [if_neg e]
      by_cases e2 : s < n
      · rw [if_pos e2, if_pos (by omega)]; omega
      · rw [if_neg e2, if_neg (by omega)]; omega
theorem Ord.surj {c : Nat → Int} {o : Nat → Nat} {n s : Nat} (h : Ord c o n) (hs : s < n) : ∃ k, k < n ∧ o k = s := by
  have e := h.sums (fun x => if x = s then 1 else 0)
  rw [sm_one, if_pos hs] at e
  obtain ⟨k, h1, h2⟩ := sm_pos_exists (by rw [e]; omega)
  refine ⟨k, h1, ?_⟩
  by_cases e2 : o k = s
  · exact e2
  · simp [e2] at h2

theorem count_sm (f : Nat → Int) (a : Int) (k : Nat) : ((((List.range' 0 k).map f).count a : Nat) : Int) = sm (fun i => if f i = a then 1 else 0) k := by
  induction k with
  | zero => rfl
  | succ k ih =>
    rw [List.range'_concat, List.map_append, List.count_append, sm_succ]
    simp only [Nat.zero_add, Nat.one_mul, List.map_cons, List.map_nil]
    by_cases e : f k = a
    · rw [if_pos e, e]; simp only [List.count_singleton_self]; omega
    · rw [if_neg e]; have : List.count a [f k] = 0 := by simp [e]
      omega
theorem Ord.perm {c : Nat → Int} {o : Nat → Nat} {n : Nat} (h : Ord c o n) : (leaves n (fun i => c (o i))).Perm (leaves n c) := by
  unfold leaves
  rw [List.perm_iff_count]
  intro a
  have e1 := count_sm (fun i => c (o i)) a n
  have e2 := count_sm c a n
  have e3 := h.sums (fun s => if c s = a then 1 else 0)
  omega

/-! ### Counts by length -/
/-- How many of the first k have length x. -/
def hist (A : Nat → Nat) (k : Nat) (x : Nat) : Int := sm (fun i => if A i = x then 1 else 0) k
def kr (p : Nat → Int) : Nat → Int
  | 0 => p 0
  | l + 1 => 2 * kr p l + p (l + 1)

theorem kr_congr {p p' : Nat → Int} {l : Nat} (h : ∀ x, x ≤ l → p x = p' x) : kr p l = kr p' l := by
  induction l with
  | zero => exact h 0 (by omega)
  | succ l ih => simp only [kr]; rw [ih (fun x hx => h x (by omega)), h (l + 1) (by omega)]
theorem kr_upd {p : Nat → Int} {x : Nat} {v : Int} : ∀ {l : Nat}, x ≤ l → kr (upd p x (p x + v)) l = kr p l + v * ((2 ^ (l - x) : Nat) : Int) := by
  intro l
  induction l with
  | zero =>
    intro hx
    have : x = 0 := by omega
    subst this
    simp [kr, upd_same]
  | succ l ih =>
    intro hx
    simp only [kr]
    by_cases e : x = l + 1
    · subst e
      rw [upd_same, kr_congr (p := upd p (l + 1) (p (l + 1) + v)) (p' := p) (fun y hy => upd_ne (by omega))]
      simp
      omega
    · rw [ih (by omega), upd_ne (by omega), show l + 1 - x = (l - x) + 1 by omega, Nat.pow_succ]
      rw [Int.mul_add, Int.natCast_mul, ← Int.mul_assoc v, Int.mul_comm (v * _), ]
      omega
theorem sm_upd {p : Nat → Int} {x : Nat} {v : Int} : ∀ {l : Nat}, x < l → sm (upd p x (p x + v)) l = sm p l + v := by
  intro l
  induction l with
  | zero => intro hx; omega
  | succ l ih =>
    intro hx
    rw [sm_succ, sm_succ]
    by_cases e : x = l
    · subst e
      rw [upd_same, sm_congr (f := upd p x (p x + v)) (g := p) (fun y hy => upd_ne (by omega))]; omega
    · rw [ih (by omega), upd_ne (by omega)]; omega

theorem hist_nonneg (A : Nat → Nat) (k x : Nat) : 0 ≤ hist A k x := sm_nonneg (fun i _ => by split <;> omega)
theorem hist_succ (A : Nat → Nat) (k : Nat) : hist A (k + 1) = upd (hist A k) (A k) (hist A k (A k) + 1) := by
  funext x
  unfold hist
  rw [sm_succ]
  by_cases e : x = A k
  · subst e; rw [upd_same, if_pos rfl]
  · rw [upd_ne e, if_neg (fun h => e h.symm)]; omega
theorem kr_zero (l : Nat) : kr (fun _ => 0) l = 0 := by
  induction l with
  | zero => rfl
  | succ l ih => simp [kr, ih]
/-- Kraft's sum by the counts is Kraft's sum by the words. -/
theorem kr_hist {A : Nat → Nat} {N : Nat} : ∀ {k : Nat}, (∀ i, i < k → A i ≤ N) → kr (hist A k) N = sm (fun i => ((2 ^ (N - A i) : Nat) : Int)) k := by
  intro k
  induction k with
  | zero => intro _; exact kr_zero N
  | succ k ih =>
    intro h
    rw [hist_succ, kr_upd (h k (by omega)), ih (fun i hi => h i (by omega)), sm_succ]
    omega
theorem sm_hist {A : Nat → Nat} {N : Nat} : ∀ {k : Nat}, (∀ i, i < k → A i ≤ N) → sm (hist A k) (N + 1) = (k : Int) := by
  intro k
  induction k with
  | zero => intro _; show sm (fun _ => 0) (N + 1) = _; rw [sm_const]; simp
  | succ k ih =>
    intro h
    have := h k (by omega)
    rw [hist_succ, sm_upd (by omega), ih (fun i hi => h i (by omega))]
    omega

/-! ### The lifting -/
/-- No code longer than l; n codes; Kraft's sum is one. -/
structure LI (p : Nat → Int) (n l : Nat) : Prop where
  nn : ∀ x, x < n → 0 ≤ p x
  p0 : p 0 = 0
  up : ∀ x, l < x → x < n → p x = 0
  su : sm p (l + 1) = (n : Int)
  kk : kr p l = ((2 ^ l : Nat) : Int)

theorem LI.of_hist {A : Nat → Nat} {n : Nat} (hn : 2 ≤ n) (h : ∀ i, i < n → 1 ≤ A i ∧ A i ≤ n - 1) (hk : sm (fun i => ((2 ^ (n - 1 - A i) : Nat) : Int)) n = ((2 ^ (n - 1) : Nat) : Int)) {p : Nat → Int} (hp : ∀ x, x < n → p x = hist A n x) : LI p n (n - 1) where
  nn := fun x hx => by rw [hp x hx]; exact hist_nonneg _ _ _
  p0 := by
    rw [hp 0 (by omega)]
    unfold hist
    rw [sm_congr (g := fun _ => 0) (fun i hi => by rw [if_neg]; have := h i hi; omega), sm_const]; simp
  up := fun x h1 h2 => by omega
  su := by
    rw [sm_congr (g := hist A n) (fun x hx => hp x (by omega)), sm_hist (fun i hi => (h i hi).2)]
  kk := by rw [kr_congr (p' := hist A n) (fun x hx => hp x (by omega)), kr_hist (fun i hi => (h i hi).2), hk]

theorem LI.down {p : Nat → Int} {n l : Nat} (h : LI p n (l + 1)) (h0 : p (l + 1) = 0) : LI p n l where
  nn := h.nn
  p0 := h.p0
  up := fun x h1 h2 => by
    by_cases e : x = l + 1
    · subst e; exact h0
    · exact h.up x (by omega) h2
  su := by have := h.su; rw [sm_succ, h0] at this; omega
  kk := by
    have := h.kk
    simp only [kr] at this
    rw [h0, Nat.pow_succ] at this
    omega

/-- The deepest level holds an even number. -/
theorem LI.even {p : Nat → Int} {n l : Nat} (h : LI p n (l + 1)) : p (l + 1) % 2 = 0 := by
  have := h.kk
  simp only [kr] at this
  rw [Nat.pow_succ] at this
  omega
theorem kr_low {p : Nat → Int} {l : Nat} (h : ∀ x, x ≤ l → p x = 0) : kr p l = 0 := by
  rw [kr_congr (p' := fun _ => 0) h]; exact kr_zero l
theorem sm_low {p : Nat → Int} {l : Nat} (h : ∀ x, x < l → p x = 0) : sm p l = 0 := by
  rw [sm_congr (g := fun _ => 0) h, sm_const]; simp
/-- A leaf above the deepest two levels is always there. -/
theorem LI.above {p : Nat → Int} {n l : Nat} (h : LI p n (l + 2)) (hn : n ≤ 255) (hl : 11 ≤ l) (hl2 : l + 2 < n) : ∃ j, j ≤ l ∧ 0 < p j := by
  rcases Classical.em (∃ j, j ≤ l ∧ 0 < p j) with h' | h'
  · exact h'
  · exfalso
    have z : ∀ x, x ≤ l → p x = 0 := fun x hx => by
      have h1 := h.nn x (by omega)
      have h2 : ¬ 0 < p x := fun hp => h' ⟨x, hx, hp⟩
      omega
    have k1 : 2 * (2 * kr p l + p (l + 1)) + p (l + 2) = ((2 ^ (l + 2) : Nat) : Int) := h.kk
    rw [kr_low z] at k1
    have s1 := h.su
    rw [show l + 2 + 1 = (l + 1 + 1) + 1 by omega, sm_succ, sm_succ, sm_low (fun x hx => z x (by omega))] at s1
    rw [show l + 1 + 1 = l + 2 by omega] at s1
    have p1 : 2 ^ 13 ≤ 2 ^ (l + 2) := Nat.pow_le_pow_right (by omega) (by omega)
    have h1 := h.nn (l + 1) (by omega)
    have h2 := h.nn (l + 2) (by omega)
    have p2 : (2 : Nat) ^ 13 = 8192 := by decide
    omega

/-- One lifting. -/
def lift (p : Nat → Int) (l j : Nat) : Nat → Int :=
  let p1 := upd p l (p l - 2)
  let p2 := upd p1 (l - 1) (p1 (l - 1) + 1)
  let p3 := upd p2 (j + 1) (p2 (j + 1) + 2)
  upd p3 j (p3 j - 1)

theorem LI.lift {p : Nat → Int} {n l j : Nat} (h : LI p n (l + 2)) (_hl2 : l + 2 < n) (hpos : 0 < p (l + 2)) (hj : j ≤ l) (hpj : 0 < p j) : LI (lift p (l + 2) j) n (l + 2) ∧ lift p (l + 2) j (l + 2) = p (l + 2) - 2 := by
  have ev : p (l + 2) % 2 = 0 := h.even
  have hj0 : j ≠ 0 := fun e => by subst e; rw [h.p0] at hpj; omega
  obtain ⟨p1, e1⟩ : ∃ p1, p1 = upd p (l + 2) (p (l + 2) + -2) := ⟨_, rfl⟩
  obtain ⟨p2, e2⟩ : ∃ p2, p2 = upd p1 (l + 1) (p1 (l + 1) + 1) := ⟨_, rfl⟩
  obtain ⟨p3, e3⟩ : ∃ p3, p3 = upd p2 (j + 1) (p2 (j + 1) + 2) := ⟨_, rfl⟩
  obtain ⟨p4, e4⟩ : ∃ p4, p4 = upd p3 j (p3 j + -1) := ⟨_, rfl⟩
  have el : Hf.lift p (l + 2) j = p4 := by
    rw [e4, e3, e2, e1]
    rfl
  rw [el]
  have v3 : p3 j = p j := by rw [e3, upd_ne (by omega), e2, upd_ne (by omega), e1, upd_ne (by omega)]
  have v4 : p4 (l + 2) = p (l + 2) - 2 := by
    rw [e4, upd_ne (by omega), e3, upd_ne (by omega), e2, upd_ne (by omega), e1, upd_same]; omega
  have nn1 : ∀ x, x < n → 0 ≤ p1 x := fun x hx => by
    rw [e1]
    by_cases e : x = l + 2
    · subst e; rw [upd_same]; omega
    · rw [upd_ne e]; exact h.nn x hx
  have nn2 : ∀ x, x < n → 0 ≤ p2 x := fun x hx => by
    rw [e2]
    by_cases e : x = l + 1
    · subst e; rw [upd_same]; have := nn1 (l + 1) hx; omega
    · rw [upd_ne e]; exact nn1 x hx
  have nn3 : ∀ x, x < n → 0 ≤ p3 x := fun x hx => by
    rw [e3]
    by_cases e : x = j + 1
    · subst e; rw [upd_same]; have := nn2 (j + 1) hx; omega
    · rw [upd_ne e]; exact nn2 x hx
  refine ⟨⟨fun x hx => ?_, ?_, fun x h1 h2 => ?_, ?_, ?_⟩, v4⟩
  · rw [e4]
    by_cases e : x = j
    · subst e; rw [upd_same, v3]; omega
    · rw [upd_ne e]; exact nn3 x hx
  · rw [e4, upd_ne (by omega), e3, upd_ne (by omega), e2, upd_ne (by omega), e1, upd_ne (by omega)]; exact h.p0
  · rw [e4, upd_ne (by omega), e3, upd_ne (by omega), e2, upd_ne (by omega), e1, upd_ne (by omega)]; exact h.up x h1 h2
  · rw [e4, sm_upd (by omega), e3, sm_upd (by omega), e2, sm_upd (by omega), e1, sm_upd (by omega), h.su]; omega
  · rw [e4, kr_upd (by omega), e3, kr_upd (by omega), e2, kr_upd (by omega), e1, kr_upd (by omega), h.kk]
    rw [show l + 2 - (l + 2) = 0 by omega, show l + 2 - (l + 1) = 1 by omega, show l + 2 - (j + 1) = l + 1 - j by omega, show l + 2 - j = (l + 1 - j) + 1 by omega, Nat.pow_succ]
    rw [Int.natCast_mul]
    omega

/-! ### The assignment -/
/-- K words have been given lengths, in order A 0 ≤ A 1 ≤ ..: all below l, and r of l itself. -/
structure AI (p : Nat → Int) (A : Nat → Nat) (K l r : Nat) : Prop where
  rng : ∀ k, k < K → 1 ≤ A k ∧ A k ≤ l
  mono : ∀ a b, a ≤ b → b < K → A a ≤ A b
  low : ∀ x, x < l → hist A K x = p x
  at' : hist A K l = (r : Int)

theorem hist_empty (A : Nat → Nat) (x : Nat) : hist A 0 x = 0 := rfl
theorem AI.start {p : Nat → Int} (h0 : p 0 = 0) (A : Nat → Nat) : AI p A 0 1 0 :=
  ⟨fun k h => by omega, fun a b _ h => by omega, fun x hx => by have : x = 0 := by omega
                                                                subst this; rw [h0]; rfl, rfl⟩
theorem AI.give {p : Nat → Int} {A : Nat → Nat} {K l r : Nat} (h : AI p A K l r) (hl : 1 ≤ l) : AI p (upd A K l) (K + 1) l (r + 1) := by
  have up : ∀ i, i < K → upd A K l i = A i := fun i hi => upd_ne (by omega)
  have hh : ∀ x, hist (upd A K l) (K + 1) x = hist A K x + if l = x then 1 else 0 := by
    intro x
    unfold hist
    rw [sm_succ, upd_same, sm_congr (g := fun i => if A i = x then 1 else 0) (fun i hi => by rw [up i hi])]
  refine ⟨fun k hk => ?_, fun a b hab hb => ?_, fun x hx => ?_, ?_⟩
  · by_cases e : k = K
    · subst e; rw [upd_same]; omega
    · rw [up k (by omega)]; exact h.rng k (by omega)
  · by_cases e : b = K
    · subst e; rw [upd_same]
      by_cases e2 : a = b
      · subst e2; rw [upd_same]; exact Nat.le_refl _
      · rw [up a (by omega)]; exact (h.rng a (by omega)).2
    · rw [up a (by omega), up b (by omega)]; exact h.mono a b hab (by omega)
  · rw [hh, if_neg (by omega), h.low x hx]; omega
  · rw [hh, if_pos rfl, h.at']; omega
theorem AI.next {p : Nat → Int} {A : Nat → Nat} {K l r : Nat} (h : AI p A K l r) (hr : (r : Int) = p l) : AI p A K (l + 1) 0 := by
  refine ⟨fun k hk => by have := h.rng k hk; omega, h.mono, fun x hx => ?_, ?_⟩
  · by_cases e : x = l
    · subst e; rw [h.at', hr]
    · exact h.low x (by omega)
  · unfold hist
    rw [sm_congr (g := fun _ => 0) (fun i hi => by rw [if_neg]; have := h.rng i hi; omega), sm_const]; simp
/-- K words in all, by the counts. -/
theorem AI.count {p : Nat → Int} {A : Nat → Nat} {K l r : Nat} (h : AI p A K l r) : (K : Int) = sm p l + r := by
  have e := sm_hist (A := A) (N := l) (k := K) (fun i hi => (h.rng i hi).2)
  rw [sm_succ, h.at', sm_congr (g := p) (fun x hx => h.low x hx)] at e
  omega

/-- Reversed. -/
theorem sm_rev (f : Nat → Int) (n : Nat) : sm (fun i => f (n - 1 - i)) n = sm f n := by
  induction n with
  | zero => rfl
  | succ n ih =>
    have h := sm_ins (f := fun i => f (n - 1 - i)) (g := fun i => f (n - i)) (v := f n) (j := 0) n (by omega) (fun k hk => by omega) (by simp) (fun k h1 h2 => by
      show f (n - k) = f (n - 1 - (k - 1)); rw [show n - 1 - (k - 1) = n - k by omega])
    rw [show (fun i => f (n + 1 - 1 - i)) = fun i => f (n - i) by funext i; rw [Nat.add_sub_cancel], h, ih, sm_succ]

/-- Two sequences that never rise, with the same counts, are one. -/
theorem same_hist {x y : Nat → Nat} : ∀ {n : Nat}, (∀ a b, a ≤ b → b < n → x b ≤ x a) → (∀ a b, a ≤ b → b < n → y b ≤ y a) → (∀ v, hist x n v = hist y n v) → ∀ i, i < n → x i = y i := by
  intro n
  induction n with
  | zero => intro _ _ _ i hi; omega
  | succ n ih =>
    intro hx hy hh i hi
    have ex : ∃ k, k < n + 1 ∧ y k = x n := by
      have e := hh (x n)
      have : 0 < hist x (n + 1) (x n) := by
        unfold hist
        have := sm_term (f := fun i => if x i = x n then 1 else 0) (k := n + 1) (j := n) (fun i _ => by split <;> omega) (by omega)
        simp at this
        omega
      rw [e] at this
      obtain ⟨k, h1, h2⟩ := sm_pos_exists this
      refine ⟨k, h1, ?_⟩
      by_cases e2 : y k = x n
      · exact e2
      · simp [e2] at h2
    have ey : ∃ k, k < n + 1 ∧ x k = y n := by
      have e := hh (y n)
      have : 0 < hist y (n + 1) (y n) := by
        unfold hist
        have := sm_term (f := fun i => if y i = y n then 1 else 0) (k := n + 1) (j := n) (fun i _ => by split <;> omega) (by omega)
        simp at this
        omega
      rw [← e] at this
      obtain ⟨k, h1, h2⟩ := sm_pos_exists this
      refine ⟨k, h1, ?_⟩
      by_cases e2 : x k = y n
      · exact e2
      · simp [e2] at h2
    have en : x n = y n := by
      obtain ⟨k, h1, h2⟩ := ex
      obtain ⟨k', h1', h2'⟩ := ey
      have := hy k n (by omega) (by omega)
      have := hx k' n (by omega) (by omega)
      omega
    by_cases e : i = n
    · subst e; exact en
    · refine ih (fun a b h1 h2 => hx a b h1 (by omega)) (fun a b h1 h2 => hy a b h1 (by omega)) (fun v => ?_) i (by omega)
      have := hh v
      unfold hist at this ⊢
      rw [sm_succ, sm_succ, en] at this
      omega
end Go.Proofs.Qxb6601138a.Hf
