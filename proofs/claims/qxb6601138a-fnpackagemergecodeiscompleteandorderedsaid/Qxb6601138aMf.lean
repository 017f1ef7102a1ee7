import Derived.Test.Qxb6601138aMe
namespace Go.Proofs.Qxb6601138a.Hf
open Go.RowKit Gw
set_option linter.unusedVariables false

/-- The slot of level k in isLeaf, r levels done. -/
def ilv (n M r : Nat) (Fb : Nat → Nat) (k : Nat) : Value := if M - r ≤ k then .slice (some ⟨Fb k, 0, none⟩) (szl n (M - 1 - k)) (szl n (M - 1 - k)) else .slice none 0 0
/-- The memory with the lists' flags, r levels done. -/
structure ZF (w wr : World) (B Bo nl n : Nat) (ao av : Option Addr) (len L : Nat → Int) (Wb Ib M r : Nat) (Fb : Nat → Nat) (ff : Nat → Nat → Bool) : Prop where
  ze : ZE w wr B Bo nl n ao av len L
  ww : wr.rowIs Wb 28 n (fun i => .int .u64 (lwt L i))
  il : wr.rowIs Ib 38 M (ilv n M r Fb)
  fr : ∀ k, M - r ≤ k → k < M → w.heap.size ≤ Fb k ∧ Fb k ≠ Ib ∧ wr.rowIs (Fb k) 4 (szl n (M - 1 - k)) (fun i => .bool (ff k i))
  geo : w.heap.size ≤ Wb ∧ w.heap.size ≤ Ib ∧ Wb ≠ Ib
/-- The chain of the lists, r levels done. -/
structure CH (n M r : Nat) (lw : Nat → Int) (vv : Nat → Nat → Int) (ff : Nat → Nat → Bool) : Prop where
  lv : ∀ k, M - r ≤ k → k < M → LV n lw (szl n (M - 1 - k)) (vv k) (ff k)
  lk : ∀ k, M - r ≤ k → k + 1 < M → LK n lw (szl n (M - 1 - k)) (ff k) (szl n (M - 1 - (k + 1))) (vv (k + 1))
  sum : ∀ k, M - r ≤ k → k < M → sm (vv k) (szl n (M - 1 - k)) ≤ ((M - k : Nat) : Int) * sm lw n
  base : ∀ i, ff (M - 1) i = true
section
variable {w wr w' : World} {B Bo nl n : Nat} {ao av : Option Addr} {len L : Nat → Int} {Wb Ib M r : Nat} {Fb : Nat → Nat} {ff : Nat → Nat → Bool}
theorem ZF.below (h : ZF w wr B Bo nl n ao av len L Wb Ib M r Fb ff) (b : Below wr.heap.size wr w') : ZF w w' B Bo nl n ao av len L Wb Ib M r Fb ff :=
  ⟨h.ze.keep (fun k hk => b.block k (by have := h.ze.en.2.2.2; omega)) ⟨b.os, b.tape, b.output, b.size⟩, h.ww.of_block (b.block _ h.ww.lt), h.il.of_block (b.block _ h.il.lt), fun k h1 h2 => ⟨(h.fr k h1 h2).1, (h.fr k h1 h2).2.1, (h.fr k h1 h2).2.2.of_block (b.block _ (h.fr k h1 h2).2.2.lt)⟩, h.geo⟩
theorem ZF.lay (h : ZF w wr B Bo nl n ao av len L Wb Ib M r Fb ff) (hr : r < M) {G : Nat} {g : Nat → Bool} (hG : wr.rowIs G 4 (szl n r) (fun i => .bool (g i))) (g1 : w.heap.size ≤ G) (g2 : G ≠ Ib) : ZF w (wr.setCell ⟨Ib, M - 1 - r, none⟩ (.slice (some ⟨G, 0, none⟩) (szl n r) (szl n r))) B Bo nl n ao av len L Wb Ib M (r + 1) (upd Fb (M - 1 - r) G) (upd ff (M - 1 - r) g) := by
  have gg := h.geo
  refine ⟨h.ze.keep (fun j hj => Below.heap_setCell _ _ _ _ (show j ≠ Ib by omega)) ⟨rfl, rfl, rfl, by simp [World.setCell]⟩, h.ww.setOther (show Wb ≠ Ib from gg.2.2) _, (h.il.set (M - 1 - r) _).congr (fun j hj => ?_), fun k h1 h2 => ?_, gg⟩
  · by_cases e : j = M - 1 - r
    · subst e
      rw [if_pos rfl]
      unfold ilv
      rw [if_pos (by omega), upd_same, show M - 1 - (M - 1 - r) = r by omega]
    · rw [if_neg e]
      unfold ilv
      rw [upd_ne e]
      by_cases e2 : M - r ≤ j
      · rw [if_pos e2, if_pos (by omega)]
      · rw [if_neg e2, if_neg (by omega)]
  · by_cases e : k = M - 1 - r
    · subst e
      rw [upd_same, upd_same, show M - 1 - (M - 1 - r) = r by omega]
      exact ⟨g1, g2, hG.setOther (show G ≠ Ib from g2) _⟩
    · rw [upd_ne e, upd_ne e]
      have := h.fr k (by omega) h2
      exact ⟨this.1, this.2.1, this.2.2.setOther (show Fb k ≠ Ib from this.2.1) _⟩
end
theorem CH.start {n M : Nat} {lw : Nat → Int} (hM : 1 ≤ M) (ls : ∀ a b, a ≤ b → b < n → lw a ≤ lw b) (lpos : ∀ a, a < n → 0 ≤ lw a) : CH n M 1 lw (fun _ => lw) (fun _ _ => true) where
  lv k h1 h2 := by
    rw [show M - 1 - k = 0 by omega]
    exact LV.base ls lpos
  lk k h1 h2 := by omega
  sum k h1 h2 := by
    rw [show M - 1 - k = 0 by omega, show M - k = 1 by omega]
    show sm lw n ≤ ((1 : Nat) : Int) * sm lw n
    rw [show ((1 : Nat) : Int) = 1 from rfl, Int.one_mul]
    exact Int.le_refl _
  base _ := rfl
theorem CH.step {n M r : Nat} {lw : Nat → Int} {vv : Nat → Nat → Int} {ff : Nat → Nat → Bool} (h : CH n M r lw vv ff) (hr : 1 ≤ r) (hrM : r < M) {s : MS} (hs : MI n lw (szl n (r - 1) / 2) (pwt (vv (M - r))) s) (hm : MSum lw (pwt (vv (M - r))) s) (e1 : s.i = n) (e2 : s.j = szl n (r - 1) / 2) : CH n M (r + 1) lw (upd vv (M - 1 - r) s.v) (upd ff (M - 1 - r) s.f) := by
  have D := hs.done e1 e2
  have ez : szl n r = n + szl n (r - 1) / 2 := by
    obtain ⟨q, rfl⟩ : ∃ q, r = q + 1 := ⟨r - 1, by omega⟩
    rfl
  have hl := h.lv (M - r) (by omega) (by omega)
  rw [show M - 1 - (M - r) = r - 1 by omega] at hl
  have hsum := h.sum (M - r) (by omega) (by omega)
  rw [show M - 1 - (M - r) = r - 1 by omega, show M - (M - r) = r by omega] at hsum
  have ms := merged_sum hl hm e1 e2
  refine ⟨fun k h1 h2 => ?_, fun k h1 h2 => ?_, fun k h1 h2 => ?_, ?_⟩
  · by_cases e : k = M - 1 - r
    · subst e
      rw [upd_same, upd_same, show M - 1 - (M - 1 - r) = r by omega, ez]; exact D.1
    · rw [upd_ne e, upd_ne e]; exact h.lv k (by omega) h2
  · by_cases e : k = M - 1 - r
    · subst e
      rw [upd_same, upd_ne (by omega), show M - 1 - (M - 1 - r) = r by omega, show M - 1 - (M - 1 - r + 1) = r - 1 by omega, show M - 1 - r + 1 = M - r by omega, ez]; exact D.2
    · rw [upd_ne e, upd_ne (by omega)]; exact h.lk k (by omega) h2
  · by_cases e : k = M - 1 - r
    · subst e
      rw [upd_same, show M - 1 - (M - 1 - r) = r by omega, show M - (M - 1 - r) = r + 1 by omega, ez, Int.natCast_add, Int.add_mul]
      rw [show ((1 : Nat) : Int) = 1 from rfl, Int.one_mul]
      omega
    · rw [upd_ne e]; exact h.sum k (by omega) h2
  · intro i
    rw [upd_ne (by omega)]; exact h.base i
end Go.Proofs.Qxb6601138a.Hf
