/-
  PLAIN: the merging by scanning an unordered array. Nothing of Go here.
-/
import Derived.Test.Qxb6600394aR6
namespace Go.Proofs.Qxb6600394a.Hf

theorem leaves_succ (k : Nat) (f : Nat → Int) : leaves (k + 1) f = leaves k f ++ [f k] := by
  unfold leaves
  rw [List.range'_concat, List.map_append]
  simp
theorem leaves_congr {k : Nat} {f g : Nat → Int} (h : ∀ i, i < k → f i = g i) : leaves k f = leaves k g := by
  unfold leaves
  apply List.map_congr_left
  intro i hi
  rw [List.mem_range'_1] at hi
  exact h i (by omega)
theorem mem_leaves {k : Nat} {f : Nat → Int} {x : Int} (h : x ∈ leaves k f) : ∃ i, i < k ∧ x = f i := by
  unfold leaves at h
  obtain ⟨i, hi, e⟩ := List.mem_map.1 h
  rw [List.mem_range'_1] at hi
  exact ⟨i, by omega, e.symm⟩
theorem leaves_upd_perm {f : Nat → Int} {x : Nat} {v : Int} : ∀ {k : Nat}, x < k → (f x :: leaves k (upd f x v)).Perm (v :: leaves k f) := by
  intro k
  induction k with
  | zero => intro h; omega
  | succ k ih =>
    intro h
    rw [leaves_succ, leaves_succ]
    by_cases e : x = k
    · subst e
      rw [upd_same, leaves_congr (f := upd f x v) (g := f) (fun i hi => upd_ne (by omega))]
      have h1 : (f x :: (leaves x f ++ [v])).Perm (f x :: v :: leaves x f) := (List.perm_append_singleton v _).cons _
      have h2 : (v :: (leaves x f ++ [f x])).Perm (v :: f x :: leaves x f) := (List.perm_append_singleton (f x) _).cons _
      exact h1.trans ((List.Perm.swap v (f x) _).trans h2.symm)
    · rw [upd_ne (by omega)]
      exact (ih (by omega)).append_right [f k]
/-- One taken out, the last put in its place. -/
theorem swap_remove {k : Nat} {f : Nat → Int} {x : Nat} (hx : x < k + 1) : (leaves (k + 1) f).Perm (f x :: leaves k (upd f x (f k))) := by
  by_cases e : x = k
  · subst e
    rw [leaves_succ, leaves_congr (f := upd f x (f x)) (g := f) (fun i hi => upd_ne (by omega))]
    exact List.perm_append_singleton _ _
  · rw [leaves_succ]
    exact (List.perm_append_singleton _ _).trans (leaves_upd_perm (k := k) (by omega)).symm

/-- What is left to merge, and what has been added up, make the whole. -/
def HC (n : Nat) (c : Nat → Int) (len : Nat) (f : Nat → Int) (cost : Int) : Prop := ∀ c', Hs (len - 1) (leaves len f) c' → Hs (n - 1) (leaves n c) (c' + cost)
theorem HC.start {n : Nat} {c f : Nat → Int} (h : ∀ i, i < n → f i = c i) : HC n c n f 0 := by
  intro c' hc
  rw [leaves_congr h] at hc
  simpa using hc
theorem HC.done {n : Nat} {c f : Nat → Int} {cost : Int} (h : HC n c 1 f cost) : Hs (n - 1) (leaves n c) cost := by
  have := h 0 rfl
  simpa using this

theorem merge_perm {k : Nat} {f : Nat → Int} {lo hi : Nat} (h1 : lo < hi) (h2 : hi < k + 2) :
    ∃ R, (leaves (k + 2) f).Perm (f lo :: f hi :: R) ∧ (∀ s, (leaves (k + 1) (upd (upd f lo s) hi (f (k + 1)))).Perm (s :: R)) ∧ ∀ x ∈ R, ∃ i, i < k + 2 ∧ i ≠ lo ∧ i ≠ hi ∧ x = f i := by
  have hlo : lo < k + 1 := by omega
  have p1 := swap_remove (k := k + 1) (f := f) h2
  have e1 : upd f hi (f (k + 1)) lo = f lo := upd_ne (by omega)
  have p2 := swap_remove (k := k) (f := upd f hi (f (k + 1))) hlo
  rw [e1] at p2
  refine ⟨leaves k (upd (upd f hi (f (k + 1))) lo (upd f hi (f (k + 1)) k)), p1.trans ((p2.cons _).trans (List.Perm.swap _ _ _)), fun s => ?_, fun x hx => ?_⟩
  · have e2 : leaves (k + 1) (upd (upd f lo s) hi (f (k + 1))) = leaves (k + 1) (upd (upd f hi (f (k + 1))) lo s) := leaves_congr (fun i _ => by
      by_cases a : i = hi
      · subst a; rw [upd_same, upd_ne (by omega), upd_same]
      · rw [upd_ne a]
        by_cases b : i = lo
        · subst b; rw [upd_same, upd_same]
        · rw [upd_ne b, upd_ne b, upd_ne a])
    rw [e2]
    have p3 := swap_remove (k := k) (f := upd (upd f hi (f (k + 1))) lo s) hlo
    rw [upd_same] at p3
    refine p3.trans (List.Perm.cons _ ?_)
    rw [leaves_congr (f := upd (upd (upd f hi (f (k + 1))) lo s) lo (upd (upd f hi (f (k + 1))) lo s k)) (g := upd (upd f hi (f (k + 1))) lo (upd f hi (f (k + 1)) k)) (fun i hi' => by
      by_cases a : i = lo
      · subst a; rw [upd_same, upd_same, upd_ne (by omega)]
      · rw [upd_ne a, upd_ne a, upd_ne a])]
  · obtain ⟨i, hi', e⟩ := mem_leaves hx
    by_cases a : i = lo
    · subst a
      rw [upd_same] at e
      by_cases b : k = hi
      · subst b; rw [upd_same] at e; exact ⟨k + 1, by omega, by omega, by omega, e⟩
      · rw [upd_ne b] at e; exact ⟨k, by omega, by omega, b, e⟩
    · rw [upd_ne a] at e
      by_cases b : i = hi
      · subst b; rw [upd_same] at e; exact ⟨k + 1, by omega, by omega, by omega, e⟩
      · rw [upd_ne b] at e; exact ⟨i, by omega, a, b, e⟩

theorem sumI_perm {l l' : List Int} (p : l.Perm l') : l.sum = l'.sum := by
  induction p with
  | nil => rfl
  | cons x _ ih => simp [ih]
  | swap x y l => simp only [List.sum_cons]; omega
  | trans _ _ h1 h2 => exact h1.trans h2
theorem sum_leaves (k : Nat) (f : Nat → Int) : (leaves k f).sum = sm f k := list_sum_int f k

/-- One merge. -/
theorem HC.step {n k : Nat} {c f : Nat → Int} {cost : Int} {a b : Nat} (h : HC n c (k + 2) f cost) (hab : a ≠ b) (ha : a < k + 2) (hb : b < k + 2) (m1 : ∀ x, x < k + 2 → f a ≤ f x) (m2 : ∀ x, x < k + 2 → x ≠ a → f b ≤ f x) (hpos : ∀ i, i < k + 2 → 0 ≤ f i)
    {lo hi : Nat} (hlh : (lo = a ∧ hi = b ∧ a < b) ∨ (lo = b ∧ hi = a ∧ b < a)) :
    HC n c (k + 1) (upd (upd f lo (f a + f b)) hi (f (k + 1))) (cost + (f a + f b)) ∧ sm (upd (upd f lo (f a + f b)) hi (f (k + 1))) (k + 1) = sm f (k + 2) ∧ ∀ i, i < k + 1 → 0 ≤ upd (upd f lo (f a + f b)) hi (f (k + 1)) i := by
  have h1 : lo < hi := by omega
  have h2 : hi < k + 2 := by omega
  obtain ⟨R, p1, p2, hR⟩ := merge_perm (f := f) h1 h2
  have p1' : (leaves (k + 2) f).Perm (f a :: f b :: R) := by
    rcases hlh with ⟨rfl, rfl, _⟩ | ⟨rfl, rfl, _⟩
    · exact p1
    · exact p1.trans (List.Perm.swap _ _ _)
  have hRa : ∀ x ∈ R, ∃ i, i < k + 2 ∧ i ≠ a ∧ i ≠ b ∧ x = f i := by
    intro x hx
    obtain ⟨i, e1, e2, e3, e4⟩ := hR x hx
    exact ⟨i, e1, by omega, by omega, e4⟩
  refine ⟨fun c' hc => ?_, ?_, fun i hi' => ?_⟩
  · have hs : Hs (k + 2 - 1) (leaves (k + 2) f) (f a + f b + c') := by
      refine ⟨f a, f b, R, c', p1', fun x hx => ?_, rfl, ?_⟩
      · obtain ⟨i, e1, e2, e3, rfl⟩ := hRa x hx
        exact ⟨m1 i e1, m2 i e1 e2⟩
      · exact hc.perm (p2 _)
    have := h _ hs
    rw [show c' + (cost + (f a + f b)) = f a + f b + c' + cost by omega]
    exact this
  · rw [← sum_leaves, ← sum_leaves, sumI_perm (p2 (f a + f b)), sumI_perm p1']
    simp only [List.sum_cons]; omega
  · have ha0 := hpos a ha
    have hb0 := hpos b hb
    by_cases e : i = hi
    · subst e; rw [upd_same]; exact hpos _ (by omega)
    · rw [upd_ne e]
      by_cases e2 : i = lo
      · subst e2; rw [upd_same]; omega
      · rw [upd_ne e2]; exact hpos i (by omega)
end Go.Proofs.Qxb6600394a.Hf
