/-
  PLAIN: Kraft's sum level by level. Nothing of Go here.
-/
import Derived.Test.Qxb6601138aTr
namespace Go.Proofs.Qxb6601138a.Hf
set_option linter.unusedVariables false

/-- How many have the length d, of the first k. -/
def cn (D : Nat → Nat) (k d : Nat) : Int := sm (fun i => if D i = d then 1 else 0) k
/-- What lies deeper than d, in units of the deepest level. -/
def dp (D : Nat → Nat) (n M d : Nat) : Int := sm (fun i => if d < D i then ((2 ^ (M - D i) : Nat) : Int) else 0) n
theorem cn_succ (D : Nat → Nat) (k : Nat) : cn D (k + 1) = upd (cn D k) (D k) (cn D k (D k) + 1) := by
  funext d
  show sm _ k + (if D k = d then 1 else 0) = _
  by_cases e : d = D k
  · subst e; rw [upd_same, if_pos rfl]; rfl
  · rw [upd_ne e, if_neg (fun h => e h.symm)]; show sm _ k + 0 = sm _ k; omega
theorem cn_bnd (D : Nat → Nat) (k d : Nat) : 0 ≤ cn D k d ∧ cn D k d ≤ (k : Int) := by
  refine ⟨sm_nonneg (fun i _ => by split <;> omega), ?_⟩
  have := sm_le (f := fun i => if D i = d then (1 : Int) else 0) (g := fun _ => 1) (k := k) (fun i _ => by
    show (if D i = d then (1 : Int) else 0) ≤ 1
    split <;> omega)
  rw [sm_const] at this
  show sm _ k ≤ _
  omega
theorem sm_split {f g h : Nat → Int} {n : Nat} (e : ∀ i, i < n → f i = g i + h i) : sm f n = sm g n + sm h n := by
  rw [← sm_add]; exact sm_congr e
theorem dp_step (D : Nat → Nat) (n M d : Nat) (hd : 1 ≤ d) : dp D n M (d - 1) = dp D n M d + cn D n d * ((2 ^ (M - d) : Nat) : Int) := by
  have e : cn D n d * ((2 ^ (M - d) : Nat) : Int) = sm (fun i => ((2 ^ (M - d) : Nat) : Int) * (if D i = d then 1 else 0)) n := by
    rw [sm_mul, Int.mul_comm]; rfl
  rw [e]
  refine sm_split (fun i hi => ?_)
  show (if d - 1 < D i then _ else _) = (if d < D i then _ else _) + _ * (if D i = d then 1 else 0)
  rcases Nat.lt_trichotomy (D i) d with h | h | h
  · rw [if_neg (by omega), if_neg (by omega), if_neg (by omega)]; omega
  · rw [if_pos (by omega), if_neg (by omega), if_pos h, h]; omega
  · rw [if_pos (by omega), if_pos h, if_neg (by omega)]; omega
theorem dp_top (D : Nat → Nat) (n M : Nat) (h : ∀ i, i < n → D i ≤ M) : dp D n M M = 0 := by
  have : dp D n M M = sm (fun _ => 0) n := sm_congr (fun i hi => if_neg (by have := h i hi; omega))
  rw [this, sm_const]; omega
theorem dp_zero (D : Nat → Nat) (n M : Nat) (h : ∀ i, i < n → 1 ≤ D i) : dp D n M 0 = sm (fun i => ((2 ^ (M - D i) : Nat) : Int)) n :=
  sm_congr (fun i hi => if_pos (by have := h i hi; omega))
theorem pow_split {a b : Nat} (h : b ≤ a) : ((2 ^ a : Nat) : Int) = ((2 ^ (a - b) : Nat) : Int) * ((2 ^ b : Nat) : Int) := by
  rw [← Int.natCast_mul, ← Nat.pow_add, Nat.sub_add_cancel h]
theorem pow_pos' (a : Nat) : (0 : Int) < ((2 ^ a : Nat) : Int) := by
  have : 0 < 2 ^ a := Nat.pow_pos (by omega)
  omega
theorem sm_dvd {f : Nat → Int} {p : Int} : ∀ {n : Nat}, (∀ i, i < n → p ∣ f i) → p ∣ sm f n := by
  intro n
  induction n with
  | zero => intro _; exact ⟨0, by show (0 : Int) = p * 0; omega⟩
  | succ n ih => intro h; rw [sm_succ]; exact Int.dvd_add (ih (fun i hi => h i (by omega))) (h n (by omega))
/-- The carry is even with its level. -/
theorem carry_even {D : Nat → Nat} {n M d : Nat} {s : Int} (hd : 1 ≤ d) (hM : d ≤ M) (hr : ∀ i, i < n → 1 ≤ D i ∧ D i ≤ M) (hk : sm (fun i => ((2 ^ (M - D i) : Nat) : Int)) n = ((2 ^ M : Nat) : Int)) (hs : dp D n M (d - 1) = s * ((2 ^ (M - d) : Nat) : Int)) : s % 2 = 0 := by
  have h1 : ((2 ^ (M - d + 1) : Nat) : Int) ∣ dp D n M (d - 1) := by
    have e : dp D n M (d - 1) = ((2 ^ M : Nat) : Int) - sm (fun i => if d - 1 < D i then 0 else ((2 ^ (M - D i) : Nat) : Int)) n := by
      have := sm_split (f := fun i => ((2 ^ (M - D i) : Nat) : Int)) (g := fun i => if d - 1 < D i then ((2 ^ (M - D i) : Nat) : Int) else 0) (h := fun i => if d - 1 < D i then 0 else ((2 ^ (M - D i) : Nat) : Int)) (n := n) (fun i hi => by
        show _ = (if d - 1 < D i then _ else _) + (if d - 1 < D i then _ else _)
        by_cases e : d - 1 < D i
        · rw [if_pos e, if_pos e]; omega
        · rw [if_neg e, if_neg e]; omega)
      rw [hk] at this
      show sm _ n = _
      omega
    rw [e]
    refine Int.dvd_sub ?_ (sm_dvd (fun i hi => ?_))
    · rw [pow_split (show M - d + 1 ≤ M by omega)]; exact Int.dvd_mul_left _ _
    · show _ ∣ (if d - 1 < D i then _ else _)
      by_cases e : d - 1 < D i
      · rw [if_pos e]; exact ⟨0, by omega⟩
      · rw [if_neg e, pow_split (show M - d + 1 ≤ M - D i by have := hr i hi; omega)]; exact Int.dvd_mul_left _ _
  rw [hs] at h1
  obtain ⟨q, hq⟩ := h1
  have e2 : ((2 ^ (M - d + 1) : Nat) : Int) = ((2 ^ (M - d) : Nat) : Int) * 2 := by rw [Nat.pow_succ, Int.natCast_mul]; rfl
  rw [e2] at hq
  have hp := pow_pos' (M - d)
  have : s = 2 * q := by
    have h3 : ((2 ^ (M - d) : Nat) : Int) * s = ((2 ^ (M - d) : Nat) : Int) * (2 * q) := by
      rw [Int.mul_comm, hq, Int.mul_assoc]
    exact Int.eq_of_mul_eq_mul_left (by omega) h3
  omega
theorem carry_bnd {D : Nat → Nat} {n M d : Nat} {c : Int} (hM : d ≤ M) (hc : dp D n M d = c * ((2 ^ (M - d) : Nat) : Int)) : 0 ≤ c ∧ c ≤ (n : Int) := by
  have hp := pow_pos' (M - d)
  have h0 : 0 ≤ dp D n M d := sm_nonneg (fun i _ => by
    show 0 ≤ (if d < D i then _ else _)
    split
    · exact Int.natCast_nonneg _
    · omega)
  have h1 : dp D n M d ≤ ((2 ^ (M - d) : Nat) : Int) * (n : Int) := by
    have := sm_le (f := fun i => if d < D i then ((2 ^ (M - D i) : Nat) : Int) else 0) (g := fun _ => ((2 ^ (M - d) : Nat) : Int)) (k := n) (fun i _ => by
      show (if d < D i then _ else _) ≤ _
      split
      · have := Nat.pow_le_pow_right (n := 2) (by omega) (show M - D i ≤ M - d by omega)
        omega
      · omega)
    rwa [sm_const] at this
  rw [hc] at h0 h1
  constructor
  · rcases (show c < 0 ∨ 0 ≤ c by omega) with h | h
    · have := Int.mul_neg_of_neg_of_pos h hp; omega
    · exact h
  · rw [Int.mul_comm] at h1
    exact Int.le_of_mul_le_mul_left h1 hp
end Go.Proofs.Qxb6601138a.Hf
