/-
  PLAIN: the lifting, with what it leaves alone where nothing is deep. Nothing of Go here.
-/
import Derived.Test.Qxb6600394aR5
namespace Go.Proofs.Qxb6600394a.Hf

theorem R5.peb {n : Nat} {pa de : Nat → Nat} {pe : Nat → Int} {k : Nat} (h : R5 n pa de pe k) (y : Nat) : 0 ≤ pe y ∧ pe y ≤ (n : Int) := by
  rw [h.cnt y]
  constructor
  · exact sm_nonneg (fun i _ => by split <;> omega)
  · have := sm_le (f := fun x => if k ≤ x ∧ de x = y then 1 else 0) (g := fun _ => 1) (k := n) (fun i _ => by split <;> omega)
    rw [sm_const] at this
    omega

/-- No code is longer than l; where no leaf was deeper than 12 the counts are as they were. -/
def R6 (n : Nat) (lw : Nat → Int) (p : Nat → Int) (l : Nat) : Prop :=
  ∃ iw lp ip d, TQ n lw iw lp ip (n - 1) n (n - 2) ∧ Hs (n - 1) (leaves n lw) (sm iw (n - 1)) ∧ Dep n ip d ∧ LI p n l ∧
    ((∀ x, 12 < x → x < n → hist (dl lp d) n x = 0) → ∀ x, x < n → p x = hist (dl lp d) n x)

theorem R6.start {n l q : Nat} {lw wt : Nat → Int} {pa de : Nat → Nat} {pe : Nat → Int} (hn : 2 ≤ n) (h4 : R4 n lw wt pa (n - 1) l q) (h5 : R5 n pa de pe 0) : R6 n lw pe (n - 1) := by
  obtain ⟨iw, lp, ip, hq, hs, hp⟩ := h4.fin hn
  obtain ⟨hd, hh⟩ := h5.fin hn hp hq.lpr
  exact ⟨iw, lp, ip, _, hq, hs, hd, LI.of_hist hn (fun i hi => dl_le hq hd hi) (kraft hn hq hd) (fun x _ => hh x), fun _ x _ => hh x⟩
theorem R6.li {n l : Nat} {lw p : Nat → Int} (h : R6 n lw p l) : LI p n l := by
  obtain ⟨iw, lp, ip, d, hq, hs, hd, hl, hu⟩ := h
  exact hl
theorem R6.down {n l : Nat} {lw p : Nat → Int} (h : R6 n lw p l) (hl : 1 ≤ l) (h0 : p l = 0) : R6 n lw p (l - 1) := by
  obtain ⟨l, rfl⟩ : ∃ k, l = k + 1 := ⟨l - 1, by omega⟩
  obtain ⟨iw, lp, ip, d, hq, hs, hd, hl, hu⟩ := h
  exact ⟨iw, lp, ip, d, hq, hs, hd, hl.down h0, hu⟩
theorem R6.above {n l : Nat} {lw p : Nat → Int} (h : R6 n lw p l) (hn : n ≤ 255) (hl : 13 ≤ l) (hl2 : l < n) : ∃ j, j ≤ l - 2 ∧ 0 < p j := by
  obtain ⟨l, rfl⟩ : ∃ k, l = k + 2 := ⟨l - 2, by omega⟩
  exact h.li.above hn (by omega) hl2
theorem R6.lift {n l j : Nat} {lw p : Nat → Int} (h : R6 n lw p l) (hl : 13 ≤ l) (hl2 : l < n) (hpos : 0 < p l) (hj : j ≤ l - 2) (hpj : 0 < p j) : R6 n lw (lift p l j) l ∧ lift p l j l = p l - 2 ∧ 2 ≤ p l := by
  obtain ⟨l, rfl⟩ : ∃ k, l = k + 2 := ⟨l - 2, by omega⟩
  obtain ⟨iw, lp, ip, d, hq, hs, hd, hl', hu⟩ := h
  have ev : p (l + 2) % 2 = 0 := hl'.even
  obtain ⟨g1, g2⟩ := hl'.lift hl2 hpos (by omega) hpj
  refine ⟨⟨iw, lp, ip, d, hq, hs, hd, g1, fun hz => ?_⟩, g2, by omega⟩
  exfalso
  have := hu hz (l + 2) hl2
  rw [hz (l + 2) (by omega) hl2] at this
  omega
/-- The counts are no more than n. -/
theorem R6.pb {n l : Nat} {lw p : Nat → Int} (h : R6 n lw p l) (hl : l < n) {x : Nat} (hx : x < n) : 0 ≤ p x ∧ p x ≤ (n : Int) := by
  have hli := h.li
  refine ⟨hli.nn x hx, ?_⟩
  by_cases e : x ≤ l
  · have := sm_term (f := p) (k := l + 1) (j := x) (fun i hi => hli.nn i (by omega)) (by omega)
    rw [hli.su] at this
    exact this
  · rw [hli.up x (by omega) hx]; omega
end Go.Proofs.Qxb6600394a.Hf
