/-
  PLAIN: the depths in one array, and the counts by depth. Nothing of Go here.
-/
import Derived.Test.Qxb6600394aR4
namespace Go.Proofs.Qxb6600394a.Hf

theorem R4.fin {n l q : Nat} {lw wt : Nat → Int} {pa : Nat → Nat} (hn : 2 ≤ n) (h : R4 n lw wt pa (n - 1) l q) :
    ∃ iw lp ip, TQ n lw iw lp ip (n - 1) n (n - 2) ∧ Hs (n - 1) (leaves n lw) (sm iw (n - 1)) ∧ PaIs n pa lp ip n (n - 2) := by
  obtain ⟨iw, lp, ip, hq, _, hi, _, hp⟩ := h
  obtain ⟨rfl, rfl⟩ := hq.fin hn
  exact ⟨iw, lp, ip, hq, hi.done, hp⟩
theorem R4.pab {n l q : Nat} {lw wt : Nat → Int} {pa : Nat → Nat} (hn : 2 ≤ n) (h : R4 n lw wt pa (n - 1) l q) : ∀ x, x < 2 * n - 2 → x < pa x ∧ n ≤ pa x ∧ pa x ≤ 2 * n - 2 := by
  obtain ⟨iw, lp, ip, hq, _, hp⟩ := h.fin hn
  intro x hx
  by_cases e : x < n
  · rw [hp.1 x e]; have := hq.lpr x e; omega
  · obtain ⟨k, rfl⟩ : ∃ k, x = n + k := ⟨x - n, by omega⟩
    rw [hp.2 k (by omega)]; have := hq.ipr k (by omega); omega

/-- k nodes are still to come. -/
structure R5 (n : Nat) (pa de : Nat → Nat) (pe : Nat → Int) (k : Nat) : Prop where
  root : de (2 * n - 2) = 0
  node : ∀ x, k ≤ x → x < 2 * n - 2 → de x = de (pa x) + 1
  bnd : ∀ x, k ≤ x → x ≤ 2 * n - 2 → de x ≤ 2 * n - 2 - x
  cnt : ∀ y, pe y = sm (fun x => if k ≤ x ∧ de x = y then 1 else 0) n

theorem R5.start {n : Nat} (hn : 2 ≤ n) (pa : Nat → Nat) : R5 n pa (fun _ => 0) (fun _ => 0) (2 * n - 2) where
  root := rfl
  node := fun x h1 h2 => by omega
  bnd := fun x _ _ => Nat.zero_le _
  cnt := fun y => by rw [sm_congr (g := fun _ => 0) (fun i hi => by rw [if_neg (by omega)]), sm_const]; simp

theorem R5.step {n : Nat} {pa de : Nat → Nat} {pe : Nat → Int} {k : Nat} (h : R5 n pa de pe (k + 1)) (hk : k + 1 ≤ 2 * n - 2) (hpa : ∀ x, x < 2 * n - 2 → x < pa x ∧ n ≤ pa x ∧ pa x ≤ 2 * n - 2) :
    R5 n pa (upd de k (de (pa k) + 1)) (if k < n then upd pe (de (pa k) + 1) (pe (de (pa k) + 1) + 1) else pe) k ∧ (k < n → de (pa k) + 1 ≤ n - 1) := by
  have hp := hpa k (by omega)
  have hb := h.bnd (pa k) (by omega) hp.2.2
  refine ⟨⟨?_, fun x h1 h2 => ?_, fun x h1 h2 => ?_, fun y => ?_⟩, by omega⟩
  · rw [upd_ne (by omega)]; exact h.root
  · by_cases e : x = k
    · subst e; rw [upd_same, upd_ne (by omega)]
    · have hx := hpa x h2
      rw [upd_ne e, upd_ne (by omega)]
      exact h.node x (by omega) h2
  · by_cases e : x = k
    · subst e; rw [upd_same]; omega
    · rw [upd_ne e]; exact h.bnd x (by omega) h2
  · have hc := h.cnt
    by_cases hkn : k < n
    · rw [if_pos hkn]
      have e1 : sm (fun x => if k ≤ x ∧ upd de k (de (pa k) + 1) x = y then 1 else 0) n = sm (upd (fun x => if k + 1 ≤ x ∧ de x = y then 1 else 0) k ((if k + 1 ≤ k ∧ de k = y then 1 else 0) + (if de (pa k) + 1 = y then 1 else 0))) n := by
        apply sm_congr
        intro x hx
        by_cases e : x = k
        · subst e
          rw [upd_same, upd_same, if_neg (by omega : ¬ (x + 1 ≤ x ∧ de x = y))]
          by_cases e2 : de (pa x) + 1 = y
          · rw [if_pos ⟨Nat.le_refl _, e2⟩, if_pos e2]; omega
          · rw [if_neg (fun h' => e2 h'.2), if_neg e2]; omega
        · rw [upd_ne e, upd_ne e]
          by_cases e2 : k ≤ x ∧ de x = y
          · rw [if_pos e2, if_pos ⟨by omega, e2.2⟩]
          · rw [if_neg e2, if_neg (fun h' => e2 ⟨by omega, h'.2⟩)]
      rw [e1, sm_upd (p := fun x => if k + 1 ≤ x ∧ de x = y then 1 else 0) hkn, ← hc y]
      by_cases e2 : y = de (pa k) + 1
      · subst e2; rw [upd_same, if_pos rfl]
      · rw [upd_ne e2, if_neg (fun h' => e2 h'.symm)]; omega
    · rw [if_neg hkn, hc y]
      apply sm_congr
      intro x hx
      rw [if_neg (by omega), if_neg (by omega)]

/-- All is told: the depths, and how many leaves lie at each. -/
theorem R5.fin {n : Nat} {pa de lp ip : Nat → Nat} {pe : Nat → Int} (hn : 2 ≤ n) (h : R5 n pa de pe 0) (hp : PaIs n pa lp ip n (n - 2)) (hl : ∀ i, i < n → lp i < n - 1) :
    Dep n ip (fun j => de (n + j)) ∧ ∀ y, pe y = hist (dl lp (fun j => de (n + j))) n y := by
  constructor
  · refine ⟨?_, fun i hi => ?_⟩
    · show de (n + (n - 2)) = 0
      rw [show n + (n - 2) = 2 * n - 2 by omega]; exact h.root
    · show de (n + i) = de (n + ip i) + 1
      rw [h.node (n + i) (by omega) (by omega), hp.2 i hi]
  · intro y
    rw [h.cnt y]
    unfold hist
    apply sm_congr
    intro x hx
    have e : dl lp (fun j => de (n + j)) x = de x := by
      unfold dl
      show de (n + lp x) + 1 = de x
      have := hl x hx
      rw [h.node x (by omega) (by omega), hp.1 x hx]
    rw [e]
    by_cases e2 : de x = y
    · rw [if_pos ⟨by omega, e2⟩, if_pos e2]
    · rw [if_neg (fun h' => e2 h'.2), if_neg e2]
end Go.Proofs.Qxb6600394a.Hf
