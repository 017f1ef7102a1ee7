/-
  PLAIN: THE POOL. Plain selection picks what the two queues pick. Nothing of Go here.
-/
import Derived.Test.Qxb6601138aQs
namespace Go.Proofs.Qxb6601138a.Hf
set_option linter.unusedVariables false

/-- Which item is live. -/
def alv (n t : Nat) (s : QS) (x : Nat) : Bool := decide ((x < n ∧ s.l ≤ x) ∨ (n + s.q ≤ x ∧ x < n + t))
/-- An item's weight. -/
def itw (n : Nat) (lw : Nat → Int) (s : QS) (x : Nat) : Int := if x < n then lw x else s.iw (x - n)
/-- The item that is picked. -/
def pit (n : Nat) (lw : Nat → Int) (t : Nat) (s : QS) : Nat := if pb n lw t s = true then s.l else n + s.q
/-- The lightest, the earliest of them. -/
structure Lst (m : Nat) (w : Nat → Int) (al : Nat → Bool) (a : Nat) : Prop where
  lt : a < m
  live : al a = true
  le : ∀ k, k < m → al k = true → w a ≤ w k
  ls : ∀ k, k < a → al k = true → w a < w k

theorem alv_iff {n t : Nat} {s : QS} {x : Nat} : alv n t s x = true ↔ ((x < n ∧ s.l ≤ x) ∨ (n + s.q ≤ x ∧ x < n + t)) := by unfold alv; exact decide_eq_true_iff
theorem pb_cases (n : Nat) (lw : Nat → Int) (t : Nat) (s : QS) : (pb n lw t s = true ∧ s.l < n ∧ (s.q = t ∨ lw s.l ≤ s.iw s.q)) ∨ (pb n lw t s = false ∧ ¬ (s.l < n ∧ (s.q = t ∨ lw s.l ≤ s.iw s.q))) := by
  by_cases hb : s.l < n ∧ (s.q = t ∨ lw s.l ≤ s.iw s.q)
  · exact Or.inl ⟨decide_eq_true hb, hb⟩
  · exact Or.inr ⟨decide_eq_false hb, hb⟩
section
variable {n t c : Nat} {lw : Nat → Int} {s : QS} {x : Int}
theorem THs.inner_lt (h : THs n lw t s c x) (hc : c < 2) (hb : ¬ (s.l < n ∧ (s.q = t ∨ lw s.l ≤ s.iw s.q))) : s.q < t ∧ (s.l = n ∨ s.iw s.q < lw s.l) := by
  have hl := TH.left h hc
  have hln := TH.ln h
  have hq := TH.q1 h
  have hq2 : s.q < t := by
    rcases hl with h1 | h1
    · rcases Nat.lt_or_ge s.q t with h2 | h2
      · exact h2
      · exact absurd ⟨h1, Or.inl (by omega)⟩ hb
    · exact h1
  refine ⟨hq2, ?_⟩
  by_cases e2 : s.l = n
  · exact Or.inl e2
  · right
    rcases Classical.em (s.iw s.q < lw s.l) with h2 | h2
    · exact h2
    · exact absurd ⟨by omega, Or.inr (by omega)⟩ hb
theorem THs.lst (h : THs n lw t s c x) (hc : c < 2) : Lst (n + t) (itw n lw s) (alv n t s) (pit n lw t s) := by
  have hln := TH.ln h
  have hq := TH.q1 h
  rcases pb_cases n lw t s with ⟨e, h1, h2⟩ | ⟨e, hb⟩
  · have ep : pit n lw t s = s.l := by unfold pit; rw [if_pos e]
    rw [ep]
    have ea : itw n lw s s.l = lw s.l := if_pos h1
    refine ⟨by omega, alv_iff.mpr (Or.inl ⟨h1, Nat.le_refl _⟩), fun k hk hal => ?_, fun k hk hal => ?_⟩
    · rw [ea]
      rcases alv_iff.mp hal with ⟨a1, a2⟩ | ⟨a1, a2⟩
      · have eb : itw n lw s k = lw k := if_pos a1
        rw [eb]; exact TH.ls h _ _ a2 a1
      · have eb : itw n lw s k = s.iw (k - n) := if_neg (by omega)
        rw [eb]
        rcases h2 with h2 | h2
        · omega
        · exact Int.le_trans h2 (TH.is h _ _ (by omega) (by omega))
    · rcases alv_iff.mp hal with ⟨a1, a2⟩ | ⟨a1, a2⟩ <;> omega
  · have ep : pit n lw t s = n + s.q := by unfold pit; rw [e]; rfl
    obtain ⟨h1, h2⟩ := h.inner_lt hc hb
    rw [ep]
    have ea : itw n lw s (n + s.q) = s.iw s.q := by unfold itw; rw [if_neg (by omega)]; congr 1; omega
    refine ⟨by omega, alv_iff.mpr (Or.inr ⟨Nat.le_refl _, by omega⟩), fun k hk hal => ?_, fun k hk hal => ?_⟩
    · rw [ea]
      rcases alv_iff.mp hal with ⟨a1, a2⟩ | ⟨a1, a2⟩
      · have eb : itw n lw s k = lw k := if_pos a1
        rw [eb]
        rcases h2 with h2 | h2
        · omega
        · exact Int.le_trans (Int.le_of_lt h2) (TH.ls h _ _ a2 a1)
      · have eb : itw n lw s k = s.iw (k - n) := if_neg (by omega)
        rw [eb]
        exact TH.is h _ _ (by omega) (by omega)
    · rw [ea]
      rcases alv_iff.mp hal with ⟨a1, a2⟩ | ⟨a1, a2⟩
      · have eb : itw n lw s k = lw k := if_pos a1
        rw [eb]
        rcases h2 with h2 | h2
        · omega
        · exact Int.lt_of_lt_of_le h2 (TH.ls h _ _ a2 a1)
      · omega
theorem THs.alv_pick (h : THs n lw t s c x) (hc : c < 2) (y : Nat) : alv n t (pk1 n lw t s) y = upd (alv n t s) (pit n lw t s) false y := by
  have hln := TH.ln h
  have hq := TH.q1 h
  rcases pb_cases n lw t s with ⟨e, h1, h2⟩ | ⟨e, hb⟩
  · have ep : pit n lw t s = s.l := by unfold pit; rw [if_pos e]
    have el : (pk1 n lw t s).l = s.l + 1 := by unfold pk1 pkS; rw [if_pos e]
    have eq : (pk1 n lw t s).q = s.q := by unfold pk1 pkS; rw [if_pos e]
    rw [ep]
    by_cases ey : y = s.l
    · rw [ey, upd_same]; unfold alv; rw [el, eq]; exact decide_eq_false (by omega)
    · rw [upd_ne ey]; unfold alv; rw [el, eq]; exact decide_eq_decide.mpr (by omega)
  · have ep : pit n lw t s = n + s.q := by unfold pit; rw [e]; rfl
    have el : (pk1 n lw t s).l = s.l := by unfold pk1 pkS; rw [e]; rfl
    have eq : (pk1 n lw t s).q = s.q + 1 := by unfold pk1 pkS; rw [e]; rfl
    rw [ep]
    by_cases ey : y = n + s.q
    · rw [ey, upd_same]; unfold alv; rw [el, eq]; exact decide_eq_false (by omega)
    · rw [upd_ne ey]; unfold alv; rw [el, eq]; exact decide_eq_decide.mpr (by omega)
theorem itw_pit (n : Nat) (lw : Nat → Int) (t : Nat) (s : QS) : itw n lw s (pit n lw t s) = wk1 n lw t s := by
  unfold wk1 pkW pit itw
  rcases pb_cases n lw t s with ⟨e, h1, h2⟩ | ⟨e, hb⟩
  · rw [if_pos e, if_pos e, if_pos h1]
  · rw [e]
    show (if n + s.q < n then lw (n + s.q) else s.iw (n + s.q - n)) = s.iw s.q
    rw [if_neg (by omega)]; congr 1; omega
theorem itw_pk1 (n : Nat) (lw : Nat → Int) (t : Nat) (s : QS) : itw n lw (pk1 n lw t s) = itw n lw s := by
  unfold itw; rw [pk1_iw]
end

/-- Each taken item lies one below its parent. -/
def PR (n : Nat) (s : QS) (de : Nat → Nat) : Prop := (∀ j, j < s.l → de j = de (n + s.lp j) + 1) ∧ (∀ k, k < s.q → de (n + k) = de (n + s.ip k) + 1)
theorem PR.back {n t : Nat} {lw : Nat → Int} {s : QS} {de : Nat → Nat} (h : PR n (pk1 n lw t s) de) : PR n s de ∧ de (pit n lw t s) = de (n + t) + 1 := by
  rcases pb_cases n lw t s with ⟨e, h1, h2⟩ | ⟨e, hb⟩
  · have ep : pit n lw t s = s.l := by unfold pit; rw [if_pos e]
    have es : pk1 n lw t s = { s with lp := upd s.lp s.l t, l := s.l + 1 } := by unfold pk1 pkS; rw [if_pos e]
    rw [es] at h
    have h3 : ∀ j, j < s.l + 1 → de j = de (n + upd s.lp s.l t j) + 1 := h.1
    have h4 : ∀ k, k < s.q → de (n + k) = de (n + s.ip k) + 1 := h.2
    rw [ep]
    refine ⟨⟨fun j hj => ?_, h4⟩, ?_⟩
    · have := h3 j (by omega); rwa [upd_ne (by omega)] at this
    · have := h3 s.l (by omega); rwa [upd_same] at this
  · have ep : pit n lw t s = n + s.q := by unfold pit; rw [e]; rfl
    have es : pk1 n lw t s = { s with ip := upd s.ip s.q t, q := s.q + 1 } := by unfold pk1 pkS; rw [e]; rfl
    rw [es] at h
    have h3 : ∀ j, j < s.l → de j = de (n + s.lp j) + 1 := h.1
    have h4 : ∀ k, k < s.q + 1 → de (n + k) = de (n + upd s.ip s.q t k) + 1 := h.2
    rw [ep]
    refine ⟨⟨h3, fun k hk => ?_⟩, ?_⟩
    · have := h4 k (by omega); rwa [upd_ne (by omega)] at this
    · have := h4 s.q (by omega); rwa [upd_same] at this

/-- Leaf j's group is live, and lies as deep as the joins tell. -/
def GA (n t : Nat) (s : QS) (g d j : Nat) : Prop := alv n t s g = true ∧ d ≤ t ∧ ∀ de, PR n s de → de j = d + de g

section
variable {n t : Nat} {lw : Nat → Int}
theorem two_picks (hn : 1 ≤ n) (ls : ∀ i j, i ≤ j → j < n → lw i ≤ lw j) (lpos : ∀ i, i < n → 0 ≤ lw i) (ht : t + 2 ≤ n) :
    Lst (n + t) (itw n lw (qs n lw t)) (alv n t (qs n lw t)) (pit n lw t (qs n lw t)) ∧
    Lst (n + t) (itw n lw (qs n lw t)) (upd (alv n t (qs n lw t)) (pit n lw t (qs n lw t)) false) (pit n lw t (pk1 n lw t (qs n lw t))) := by
  obtain ⟨h0, h1⟩ := qs_half hn ls lpos ht
  have l0 := h0.lst (by omega)
  have l1 := h1.lst (by omega)
  rw [itw_pk1] at l1
  have e : alv n t (pk1 n lw t (qs n lw t)) = upd (alv n t (qs n lw t)) (pit n lw t (qs n lw t)) false := funext fun y => h0.alv_pick (by omega) y
  rw [e] at l1
  exact ⟨l0, l1⟩
/-- The live items of the next round. -/
theorem alv_next (hn : 1 ≤ n) (ls : ∀ i j, i ≤ j → j < n → lw i ≤ lw j) (lpos : ∀ i, i < n → 0 ≤ lw i) (ht : t + 2 ≤ n) :
    alv n (t + 1) (qs n lw (t + 1)) = upd (upd (upd (alv n t (qs n lw t)) (pit n lw t (qs n lw t)) false) (pit n lw t (pk1 n lw t (qs n lw t))) false) (n + t) true := by
  obtain ⟨h0, h1⟩ := qs_half hn ls lpos ht
  have hq : (qs n lw (t + 1)).q < t + 1 := by
    have := (qs_TQ hn ls lpos (t + 1) (by omega)).1.q1
    omega
  funext y
  have e1 : alv n t (pk1 n lw t (pk1 n lw t (qs n lw t))) y = upd (upd (alv n t (qs n lw t)) (pit n lw t (qs n lw t)) false) (pit n lw t (pk1 n lw t (qs n lw t))) false y := by
    rw [h1.alv_pick (by omega)]
    by_cases e : y = pit n lw t (pk1 n lw t (qs n lw t))
    · rw [e, upd_same, upd_same]
    · rw [upd_ne e, upd_ne e]; exact h0.alv_pick (by omega) y
  by_cases ey : y = n + t
  · rw [ey, upd_same]; exact alv_iff.mpr (Or.inr (by omega))
  · rw [upd_ne ey, ← e1]
    unfold alv
    have a1 : (qs n lw (t + 1)).l = (pk1 n lw t (pk1 n lw t (qs n lw t))).l := rfl
    have a2 : (qs n lw (t + 1)).q = (pk1 n lw t (pk1 n lw t (qs n lw t))).q := rfl
    rw [a1, a2]
    exact decide_eq_decide.mpr (by omega)
theorem itw_next (hn : 1 ≤ n) (x : Nat) (hx : x < n + t + 1) : upd (itw n lw (qs n lw t)) (n + t) (itw n lw (qs n lw t) (pit n lw t (qs n lw t)) + itw n lw (qs n lw t) (pit n lw t (pk1 n lw t (qs n lw t)))) x = itw n lw (qs n lw (t + 1)) x := by
  have e2 : itw n lw (qs n lw t) (pit n lw t (pk1 n lw t (qs n lw t))) = wk1 n lw t (pk1 n lw t (qs n lw t)) := by
    have := itw_pit n lw t (pk1 n lw t (qs n lw t))
    rwa [itw_pk1] at this
  rw [itw_pit, e2]
  have ei : (qs n lw (t + 1)).iw = upd (qs n lw t).iw t (wk1 n lw t (qs n lw t) + wk1 n lw t (pk1 n lw t (qs n lw t))) := rfl
  by_cases ey : x = n + t
  · rw [ey, upd_same]; unfold itw; rw [if_neg (by omega), ei, show n + t - n = t by omega, upd_same]
  · rw [upd_ne ey]; unfold itw; rw [ei]
    by_cases e3 : x < n
    · rw [if_pos e3, if_pos e3]
    · rw [if_neg e3, if_neg e3, upd_ne (by omega)]
theorem GA.join {g d j : Nat} (h : GA n t (qs n lw t) g d j) (hn : 1 ≤ n) (ls : ∀ i j, i ≤ j → j < n → lw i ≤ lw j) (lpos : ∀ i, i < n → 0 ≤ lw i) (ht : t + 2 ≤ n) (hg : g = pit n lw t (qs n lw t) ∨ g = pit n lw t (pk1 n lw t (qs n lw t))) :
    GA n (t + 1) (qs n lw (t + 1)) (n + t) (d + 1) j := by
  refine ⟨?_, by have := h.2.1; omega, fun de hde => ?_⟩
  · rw [alv_next hn ls lpos ht, upd_same]
  · have h2 : PR n (pk1 n lw t (pk1 n lw t (qs n lw t))) de := hde
    obtain ⟨h3, e3⟩ := h2.back
    obtain ⟨h4, e4⟩ := h3.back
    have := h.2.2 de h4
    rcases hg with hg | hg
    · rw [hg, e4] at this; omega
    · rw [hg, e3] at this; omega
theorem GA.keep {g d j : Nat} (h : GA n t (qs n lw t) g d j) (hn : 1 ≤ n) (ls : ∀ i j, i ≤ j → j < n → lw i ≤ lw j) (lpos : ∀ i, i < n → 0 ≤ lw i) (ht : t + 2 ≤ n) (h1 : g ≠ pit n lw t (qs n lw t)) (h2 : g ≠ pit n lw t (pk1 n lw t (qs n lw t))) :
    GA n (t + 1) (qs n lw (t + 1)) g d j := by
  refine ⟨?_, by have := h.2.1; omega, fun de hde => ?_⟩
  · have hg := alv_iff.mp h.1
    have hl := TH.ln (qs_half hn ls lpos ht).1
    have hq := TH.q1 (qs_half hn ls lpos ht).1
    rw [alv_next hn ls lpos ht, upd_ne (by omega), upd_ne h2, upd_ne h1]; exact h.1
  · have h2 : PR n (pk1 n lw t (pk1 n lw t (qs n lw t))) de := hde
    exact h.2.2 de h2.back.1.back.1
theorem GA.start (j : Nat) (hj : j < n) : GA n 0 (qs n lw 0) j 0 j :=
  ⟨alv_iff.mpr (Or.inl ⟨hj, Nat.zero_le _⟩), Nat.le_refl _, fun de _ => by omega⟩
theorem GA.done {g dj j : Nat} {d : Nat → Nat} (hn : 2 ≤ n) (ls : ∀ i j, i ≤ j → j < n → lw i ≤ lw j) (lpos : ∀ i, i < n → 0 ≤ lw i) (hj : j < n) (h : GA n (n - 1) (qs n lw (n - 1)) g dj j) (hd : Dep n (qs n lw (n - 1)).ip d) : dj = dl (qs n lw (n - 1)).lp d j := by
  obtain ⟨e1, e2, _⟩ := qs_fin hn ls lpos
  have hg := alv_iff.mp h.1
  rw [e1, e2] at hg
  have eg : g = n + (n - 2) := by omega
  have hp : PR n (qs n lw (n - 1)) (fun x => if x < n then d ((qs n lw (n - 1)).lp x) + 1 else d (x - n)) := by
    refine ⟨fun j hj => ?_, fun k hk => ?_⟩
    · rw [e1] at hj
      show (if j < n then _ else _) = (if n + _ < n then _ else _) + 1
      rw [if_pos hj, if_neg (by omega), show ∀ m, n + m - n = m by omega]
    · rw [e2] at hk
      show (if n + k < n then _ else _) = (if n + _ < n then _ else _) + 1
      rw [if_neg (by omega), if_neg (by omega), show ∀ m, n + m - n = m by omega, show ∀ m, n + m - n = m by omega]
      exact hd.node k hk
  have := h.2.2 _ hp
  rw [eg] at this
  have e3 : (if j < n then d ((qs n lw (n - 1)).lp j) + 1 else d (j - n)) = d ((qs n lw (n - 1)).lp j) + 1 := if_pos hj
  have e4 : (if n + (n - 2) < n then d ((qs n lw (n - 1)).lp (n + (n - 2))) + 1 else d (n + (n - 2) - n)) = 0 := by
    rw [if_neg (by omega), show n + (n - 2) - n = n - 2 by omega]; exact hd.root
  have t2 : (if j < n then d ((qs n lw (n - 1)).lp j) + 1 else d (j - n)) = dj + (if n + (n - 2) < n then d ((qs n lw (n - 1)).lp (n + (n - 2))) + 1 else d (n + (n - 2) - n)) := this
  rw [e3, e4] at t2
  unfold dl; omega
theorem itw_bnd (hn : 1 ≤ n) (ls : ∀ i j, i ≤ j → j < n → lw i ≤ lw j) (lpos : ∀ i, i < n → 0 ≤ lw i) (ht : t + 2 ≤ n) (x : Nat) (hx : x < n + t) : 0 ≤ itw n lw (qs n lw t) x ∧ itw n lw (qs n lw t) x ≤ sm lw n := by
  obtain ⟨h0, _⟩ := qs_half hn ls lpos ht
  obtain ⟨b1, b2, _⟩ := TH.bnd h0
  unfold itw
  by_cases e : x < n
  · rw [if_pos e]; exact ⟨lpos x e, b1 x e⟩
  · rw [if_neg e]; exact ⟨TH.ipos h0 _ (by omega), b2 _ (by omega)⟩
end
end Go.Proofs.Qxb6601138a.Hf
