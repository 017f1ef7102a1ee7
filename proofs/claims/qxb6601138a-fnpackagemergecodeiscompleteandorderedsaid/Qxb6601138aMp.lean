/-
  PLAIN: PACKAGE-MERGE. Merging, the prefixes of the lists, and Kraft's sum going down the levels. Nothing of Go here.
-/
import Derived.Test.Qxb6601138aTr
namespace Go.Proofs.Qxb6601138a.Hf
set_option linter.unusedVariables false

/-- How many of the first T bear the flag. -/
def ct (f : Nat → Bool) : Nat → Nat
  | 0 => 0
  | T + 1 => ct f T + (if f T = true then 1 else 0)
theorem ct_succ (f : Nat → Bool) (T : Nat) : ct f (T + 1) = ct f T + (if f T = true then 1 else 0) := rfl
theorem ct_le (f : Nat → Bool) : ∀ T, ct f T ≤ T := by
  intro T
  induction T with
  | zero => exact Nat.le_refl _
  | succ T ih => rw [ct_succ]; split <;> omega
theorem ct_upd {f : Nat → Bool} {m : Nat} {b : Bool} : ∀ {T : Nat}, T ≤ m → ct (upd f m b) T = ct f T := by
  intro T
  induction T with
  | zero => intro _; rfl
  | succ T ih => intro h; rw [ct_succ, ct_succ, ih (by omega), upd_ne (by omega)]

/-- A list on its way: i leaves and j pairs are in it. -/
structure MS where
  i : Nat
  j : Nat
  v : Nat → Int
  f : Nat → Bool
def mLeaf (n : Nat) (lw : Nat → Int) (pr : Nat) (pw : Nat → Int) (s : MS) : Prop := s.j = pr ∨ (s.i < n ∧ lw s.i ≤ pw s.j)
def putL (lw : Nat → Int) (s : MS) : MS := ⟨s.i + 1, s.j, upd s.v (s.i + s.j) (lw s.i), upd s.f (s.i + s.j) true⟩
def putP (pw : Nat → Int) (s : MS) : MS := ⟨s.i, s.j + 1, upd s.v (s.i + s.j) (pw s.j), upd s.f (s.i + s.j) false⟩

/-- What holds of a list of m items, with i leaves and j pairs. -/
structure MI (n : Nat) (lw : Nat → Int) (pr : Nat) (pw : Nat → Int) (s : MS) : Prop where
  hi : s.i ≤ n
  hj : s.j ≤ pr
  srt : ∀ a b, a ≤ b → b < s.i + s.j → s.v a ≤ s.v b
  pos : ∀ a, a < s.i + s.j → 0 ≤ s.v a
  low1 : ∀ a, a < s.i + s.j → s.i < n → s.v a ≤ lw s.i
  low2 : ∀ a, a < s.i + s.j → s.j < pr → s.v a ≤ pw s.j
  cnt : ct s.f (s.i + s.j) = s.i
  cb : ∀ T, T ≤ s.i + s.j → ct s.f T ≤ s.i ∧ T - ct s.f T ≤ s.j
  pc1 : s.i < n → 0 < s.j → pw (s.j - 1) < lw s.i
  lp1 : 0 < s.i → s.j < pr → lw (s.i - 1) ≤ pw s.j
  pc : ∀ T, T ≤ s.i + s.j → ct s.f T < n → 0 < T - ct s.f T → pw (T - ct s.f T - 1) < lw (ct s.f T)
  lv : ∀ T, T ≤ s.i + s.j → 0 < ct s.f T → lw (ct s.f T - 1) ≤ s.v (T - 1)
section
variable {n pr : Nat} {lw pw : Nat → Int}
theorem MI.start (v : Nat → Int) (f : Nat → Bool) : MI n lw pr pw ⟨0, 0, v, f⟩ where
  hi := Nat.zero_le _
  hj := Nat.zero_le _
  srt a b h1 h2 := absurd h2 (by show ¬ b < 0 + 0; omega)
  pos a h := absurd h (by show ¬ a < 0 + 0; omega)
  low1 a h := absurd h (by show ¬ a < 0 + 0; omega)
  low2 a h := absurd h (by show ¬ a < 0 + 0; omega)
  cnt := rfl
  cb T h := by
    have : T = 0 := by have h' : T ≤ 0 + 0 := h; omega
    subst this; exact ⟨Nat.le_refl _, Nat.le_refl _⟩
  pc1 _ h := absurd h (by show ¬ 0 < 0; omega)
  lp1 h := absurd h (by show ¬ 0 < 0; omega)
  pc T h _ h2 := by
    have : T = 0 := by have h' : T ≤ 0 + 0 := h; omega
    subst this; exact absurd h2 (by show ¬ 0 < 0 - 0; omega)
  lv T h h2 := by
    have : T = 0 := by have h' : T ≤ 0 + 0 := h; omega
    subst this; exact absurd h2 (by show ¬ 0 < 0; omega)
theorem MI.leaf {s : MS} (h : MI n lw pr pw s) (ls : ∀ a b, a ≤ b → b < n → lw a ≤ lw b) (lpos : ∀ a, a < n → 0 ≤ lw a) (ps : ∀ a b, a ≤ b → b < pr → pw a ≤ pw b) (hin : s.i < n) (hc : s.j = pr ∨ lw s.i ≤ pw s.j) : MI n lw pr pw (putL lw s) := by
  have e : (putL lw s).i + (putL lw s).j = s.i + s.j + 1 := by show s.i + 1 + s.j = _; omega
  have cN : ct (upd s.f (s.i + s.j) true) (s.i + s.j + 1) = s.i + 1 := by rw [ct_succ, ct_upd (Nat.le_refl _), upd_same, h.cnt]; rfl
  have hj := h.hj
  refine ⟨hin, h.hj, fun a b hab hb => ?_, fun a ha => ?_, fun a ha hi2 => ?_, fun a ha hj2 => ?_, ?_, fun T hT => ?_, fun hi2 hj2 => ?_, fun hi2 hj2 => ?_, fun T hT h1 h2 => ?_, fun T hT h1 => ?_⟩
  · rw [e] at hb
    show upd s.v (s.i + s.j) (lw s.i) a ≤ upd s.v (s.i + s.j) (lw s.i) b
    by_cases e1 : b = s.i + s.j
    · rw [e1, upd_same]
      by_cases e2 : a = s.i + s.j
      · rw [e2, upd_same]; exact Int.le_refl _
      · rw [upd_ne e2]; exact h.low1 a (by omega) hin
    · rw [upd_ne e1, upd_ne (by omega)]; exact h.srt a b hab (by omega)
  · rw [e] at ha
    show 0 ≤ upd s.v (s.i + s.j) (lw s.i) a
    by_cases e1 : a = s.i + s.j
    · rw [e1, upd_same]; exact lpos _ hin
    · rw [upd_ne e1]; exact h.pos a (by omega)
  · rw [e] at ha
    have hi3 : s.i + 1 < n := hi2
    show upd s.v (s.i + s.j) (lw s.i) a ≤ lw (s.i + 1)
    have := ls s.i (s.i + 1) (by omega) hi3
    by_cases e1 : a = s.i + s.j
    · rw [e1, upd_same]; exact this
    · rw [upd_ne e1]; exact Int.le_trans (h.low1 a (by omega) hin) this
  · rw [e] at ha
    have hj3 : s.j < pr := hj2
    show upd s.v (s.i + s.j) (lw s.i) a ≤ pw s.j
    by_cases e1 : a = s.i + s.j
    · rw [e1, upd_same]; rcases hc with hc | hc
      · omega
      · exact hc
    · rw [upd_ne e1]; exact h.low2 a (by omega) hj3
  · rw [e]; exact cN
  · rw [e] at hT
    show ct (upd s.f (s.i + s.j) true) T ≤ s.i + 1 ∧ T - ct (upd s.f (s.i + s.j) true) T ≤ s.j
    by_cases e1 : T = s.i + s.j + 1
    · rw [e1, cN]; omega
    · rw [ct_upd (by omega)]; have := h.cb T (by omega); omega
  · have hi3 : s.i + 1 < n := hi2
    exact Int.lt_of_lt_of_le (h.pc1 hin hj2) (ls s.i (s.i + 1) (by omega) hi3)
  · have hj3 : s.j < pr := hj2
    show lw (s.i + 1 - 1) ≤ pw s.j
    rw [show s.i + 1 - 1 = s.i by omega]
    rcases hc with hc | hc
    · omega
    · exact hc
  · rw [e] at hT
    have h1' : ct (upd s.f (s.i + s.j) true) T < n := h1
    have h2' : 0 < T - ct (upd s.f (s.i + s.j) true) T := h2
    show pw (T - ct (upd s.f (s.i + s.j) true) T - 1) < lw (ct (upd s.f (s.i + s.j) true) T)
    by_cases e1 : T = s.i + s.j + 1
    · rw [e1, cN] at h1' h2' ⊢
      rw [show s.i + s.j + 1 - (s.i + 1) - 1 = s.j - 1 by omega]
      exact Int.lt_of_lt_of_le (h.pc1 hin (by omega)) (ls s.i (s.i + 1) (by omega) h1')
    · rw [ct_upd (by omega)] at h1' h2' ⊢
      exact h.pc T (by omega) h1' h2'
  · rw [e] at hT
    have h1' : 0 < ct (upd s.f (s.i + s.j) true) T := h1
    show lw (ct (upd s.f (s.i + s.j) true) T - 1) ≤ upd s.v (s.i + s.j) (lw s.i) (T - 1)
    by_cases e1 : T = s.i + s.j + 1
    · rw [e1, cN, show s.i + 1 - 1 = s.i by omega, show s.i + s.j + 1 - 1 = s.i + s.j by omega, upd_same]; exact Int.le_refl _
    · rw [ct_upd (by omega)] at h1' ⊢
      have hT0 : T ≠ 0 := by intro e0; subst e0; exact absurd h1' (by show ¬ 0 < 0; omega)
      rw [upd_ne (by omega)]; exact h.lv T (by omega) h1'
theorem MI.pair {s : MS} (h : MI n lw pr pw s) (ls : ∀ a b, a ≤ b → b < n → lw a ≤ lw b) (ppos : ∀ a, a < pr → 0 ≤ pw a) (ps : ∀ a b, a ≤ b → b < pr → pw a ≤ pw b) (hjn : s.j < pr) (hc : s.i = n ∨ pw s.j < lw s.i) : MI n lw pr pw (putP pw s) := by
  have e : (putP pw s).i + (putP pw s).j = s.i + s.j + 1 := by show s.i + (s.j + 1) = _; omega
  have cN : ct (upd s.f (s.i + s.j) false) (s.i + s.j + 1) = s.i := by rw [ct_succ, ct_upd (Nat.le_refl _), upd_same, h.cnt]; rfl
  have hi := h.hi
  refine ⟨h.hi, hjn, fun a b hab hb => ?_, fun a ha => ?_, fun a ha hi2 => ?_, fun a ha hj2 => ?_, ?_, fun T hT => ?_, fun hi2 hj2 => ?_, fun hi2 hj2 => ?_, fun T hT h1 h2 => ?_, fun T hT h1 => ?_⟩
  · rw [e] at hb
    show upd s.v (s.i + s.j) (pw s.j) a ≤ upd s.v (s.i + s.j) (pw s.j) b
    by_cases e1 : b = s.i + s.j
    · rw [e1, upd_same]
      by_cases e2 : a = s.i + s.j
      · rw [e2, upd_same]; exact Int.le_refl _
      · rw [upd_ne e2]; exact h.low2 a (by omega) hjn
    · rw [upd_ne e1, upd_ne (by omega)]; exact h.srt a b hab (by omega)
  · rw [e] at ha
    show 0 ≤ upd s.v (s.i + s.j) (pw s.j) a
    by_cases e1 : a = s.i + s.j
    · rw [e1, upd_same]; exact ppos _ hjn
    · rw [upd_ne e1]; exact h.pos a (by omega)
  · rw [e] at ha
    have hi3 : s.i < n := hi2
    show upd s.v (s.i + s.j) (pw s.j) a ≤ lw s.i
    by_cases e1 : a = s.i + s.j
    · rw [e1, upd_same]; rcases hc with hc | hc
      · omega
      · omega
    · rw [upd_ne e1]; exact h.low1 a (by omega) hi3
  · rw [e] at ha
    have hj3 : s.j + 1 < pr := hj2
    show upd s.v (s.i + s.j) (pw s.j) a ≤ pw (s.j + 1)
    have := ps s.j (s.j + 1) (by omega) hj3
    by_cases e1 : a = s.i + s.j
    · rw [e1, upd_same]; exact this
    · rw [upd_ne e1]; exact Int.le_trans (h.low2 a (by omega) hjn) this
  · rw [e]; exact cN
  · rw [e] at hT
    show ct (upd s.f (s.i + s.j) false) T ≤ s.i ∧ T - ct (upd s.f (s.i + s.j) false) T ≤ s.j + 1
    by_cases e1 : T = s.i + s.j + 1
    · rw [e1, cN]; omega
    · rw [ct_upd (by omega)]; have := h.cb T (by omega); omega
  · have hi3 : s.i < n := hi2
    show pw (s.j + 1 - 1) < lw s.i
    rw [show s.j + 1 - 1 = s.j by omega]
    rcases hc with hc | hc
    · omega
    · exact hc
  · have hj3 : s.j + 1 < pr := hj2
    exact Int.le_trans (h.lp1 hi2 hjn) (ps s.j (s.j + 1) (by omega) hj3)
  · rw [e] at hT
    have h1' : ct (upd s.f (s.i + s.j) false) T < n := h1
    have h2' : 0 < T - ct (upd s.f (s.i + s.j) false) T := h2
    show pw (T - ct (upd s.f (s.i + s.j) false) T - 1) < lw (ct (upd s.f (s.i + s.j) false) T)
    by_cases e1 : T = s.i + s.j + 1
    · rw [e1, cN] at h1' h2' ⊢
      rw [show s.i + s.j + 1 - s.i - 1 = s.j by omega]
      rcases hc with hc | hc
      · omega
      · exact hc
    · rw [ct_upd (by omega)] at h1' h2' ⊢
      exact h.pc T (by omega) h1' h2'
  · rw [e] at hT
    have h1' : 0 < ct (upd s.f (s.i + s.j) false) T := h1
    show lw (ct (upd s.f (s.i + s.j) false) T - 1) ≤ upd s.v (s.i + s.j) (pw s.j) (T - 1)
    by_cases e1 : T = s.i + s.j + 1
    · rw [e1, cN] at h1' ⊢
      rw [show s.i + s.j + 1 - 1 = s.i + s.j by omega, upd_same]; exact h.lp1 h1' hjn
    · rw [ct_upd (by omega)] at h1' ⊢
      have hT0 : T ≠ 0 := by intro e0; subst e0; exact absurd h1' (by show ¬ 0 < 0; omega)
      rw [upd_ne (by omega)]; exact h.lv T (by omega) h1'
end
end Go.Proofs.Qxb6601138a.Hf
