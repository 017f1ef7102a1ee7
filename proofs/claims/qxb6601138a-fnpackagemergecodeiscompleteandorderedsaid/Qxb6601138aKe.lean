import Derived.Test.Qxb6601138aPz
import Derived.Test.Qxb6601138aKd
namespace Go.Proofs.Qxb6601138a.Hf
open Go.RowKit Gw
set_option linter.unusedVariables false

theorem asg_other {len : Nat → Int} {sy D : Nat → Nat} {s : Nat} : ∀ {k : Nat}, (∀ i, i < k → sy i ≠ s) → asg len sy D k s = len s := by
  intro k
  induction k with
  | zero => intro _; rfl
  | succ k ih =>
    intro h
    show upd (asg len sy D k) (sy k) ((D k : Int) % 256) s = _
    rw [upd_ne (fun e => h k (by omega) e.symm)]; exact ih (fun i hi => h i (by omega))
theorem asg_sym {len : Nat → Int} {sy D : Nat → Nat} : ∀ {k i : Nat}, (∀ i j, i < j → j < k → sy i ≠ sy j) → i < k → asg len sy D k (sy i) = (D i : Int) % 256 := by
  intro k
  induction k with
  | zero => intro i _ hi; omega
  | succ k ih =>
    intro i h hi
    show upd (asg len sy D k) (sy k) ((D k : Int) % 256) (sy i) = _
    by_cases e : i = k
    · subst e; rw [upd_same]
    · rw [upd_ne (h i k (by omega) (by omega))]; exact ih (fun a b hab hb => h a b hab (by omega)) (by omega)
theorem kraft_shift {D : Nat → Nat} {n K M : Nat} (hK : ∀ i, i < n → D i ≤ K) (hM : ∀ i, i < n → D i ≤ M) (h : sm (fun i => ((2 ^ (K - D i) : Nat) : Int)) n = ((2 ^ K : Nat) : Int)) : sm (fun i => ((2 ^ (M - D i) : Nat) : Int)) n = ((2 ^ M : Nat) : Int) := by
  have key : ∀ A B : Nat, A ≤ B → (∀ i, i < n → D i ≤ A) → sm (fun i => ((2 ^ (B - D i) : Nat) : Int)) n = ((2 ^ (B - A) : Nat) : Int) * sm (fun i => ((2 ^ (A - D i) : Nat) : Int)) n := by
    intro A B hAB hA
    rw [← sm_mul]
    refine sm_congr (fun i hi => ?_)
    have := hA i hi
    rw [← Int.natCast_mul, ← Nat.pow_add]
    congr 2
    omega
  rcases Nat.le_total K M with hKM | hKM
  · rw [key K M hKM hK, h, ← Int.natCast_mul, ← Nat.pow_add]
    congr 2
    omega
  · have h2 := key M K hKM hM
    rw [h] at h2
    rw [pow_split (show M ≤ K by omega)] at h2
    exact (Int.eq_of_mul_eq_mul_left (by have := pow_pos' (K - M); omega) h2).symm
theorem kraft_count {D : Nat → Nat} {n M : Nat} (h : sm (fun i => ((2 ^ (M - D i) : Nat) : Int)) n = ((2 ^ M : Nat) : Int)) : (n : Int) ≤ ((2 ^ M : Nat) : Int) := by
  have := sm_le (f := fun _ => 1) (g := fun i => ((2 ^ (M - D i) : Nat) : Int)) (k := n) (fun i _ => by
    have := pow_pos' (M - D i)
    show (1 : Int) ≤ ((2 ^ (M - D i) : Nat) : Int)
    omega)
  rw [sm_const, h] at this
  omega

/-- What a complete ordered code is. -/
structure CO (n M : Nat) (L : Nat → Int) (D : Nat → Nat) : Prop where
  rng : ∀ i, i < n → 1 ≤ D i ∧ D i ≤ M
  krf : sm (fun i => ((2 ^ (M - D i) : Nat) : Int)) n = ((2 ^ M : Nat) : Int)
  anti : ∀ i j, i ≤ j → j < n → D j ≤ D i
theorem co_of {n M nl : Nat} {L : Nat → Int} {d : Nat → Nat} (hL : Lv n nl L) (hd : Dep n (qs n (lwt L) (n - 1)).ip d) (hM : ∀ i, i < n → (dl (qs n (lwt L) (n - 1)).lp d i : Int) ≤ (M : Int)) : CO n M L (dl (qs n (lwt L) (n - 1)).lp d) := by
  obtain ⟨e1, e2, tq⟩ := qs_fin hL.n2.1 hL.srt hL.pos
  have h1 : ∀ i, i < n → 1 ≤ dl (qs n (lwt L) (n - 1)).lp d i ∧ dl (qs n (lwt L) (n - 1)).lp d i ≤ n - 1 := fun i hi => dl_le tq hd hi
  refine ⟨fun i hi => ⟨(h1 i hi).1, by have := hM i hi; omega⟩, kraft_shift (fun i hi => (h1 i hi).2) (fun i hi => by have := hM i hi; omega) (kraft hL.n2.1 tq hd), fun i j hij hj => dl_mono tq hd hij hj⟩

theorem shl_le {M k : Nat} (h : M < 12) (hc : (k : Int) ≤ ((2 ^ M : Nat) : Int)) : (k : Int) ≤ wrap64 ((2 : Int) ^ M) := by
  have h1 := Nat.pow_le_pow_right (n := 2) (by omega) (show M ≤ 11 by omega)
  rw [← pow_cast]
  unfold wrap64
  omega

set_option maxRecDepth 100000 in
set_option maxHeartbeats 16000000 in
theorem complete_early (a0 : Option Addr) (nl c0 : Nat) (z0 : List Int) (a1 : Option Addr) (n c1 : Nat) (z1 : List Int) (mb : Int) (w : World) (h0 : IsRowH .u8 w a0 nl c0 z0) (h1 : IsRowH .u64 w a1 n c1 z1) (hh : (nl : Int) > 65536 ∨ (n : Int) > 4096 ∨ (n : Int) < 2 ∨ mb < 0 ∨ mb > 255) :
    Calls Try.prog 4 #[.slice a0 nl c0, .slice a1 n c1, .int .i64 mb] w fun e w' => OK w e w' := by
  have s0 := h0.small
  have s1 := h1.small
  have H0 : Hid (IsRowH .u8 w a0 nl c0 z0 ∧ IsRowH .u64 w a1 n c1 z1) := ⟨h0, h1⟩
  clear h0 h1
  by_cases p1 : (nl : Int) > 65536
  · go_enter Try.func4, Try.ntmps4
    go_wp2_with (go_at_call 15; refine (bytes15 _ _ _ _ _ _ _ _ s0 s1).mono ?_; rintro e w' ⟨he | he, hw⟩ <;> obtain rfl : w = w' := hw.symm <;> subst he)
    all_goals (
      go_ret
      exact ⟨rfl, Below.refl _ _⟩)
  by_cases p2 : (n : Int) > 4096
  · go_enter Try.func4, Try.ntmps4
    go_wp2_with (go_at_call 15; refine (bytes15 _ _ _ _ _ _ _ _ s0 s1).mono ?_; rintro e w' ⟨he | he, hw⟩ <;> obtain rfl : w = w' := hw.symm <;> subst he)
    all_goals (
      go_ret
      exact ⟨rfl, Below.refl _ _⟩)
  by_cases p3 : (n : Int) < 2
  · go_enter Try.func4, Try.ntmps4
    go_wp2_with (go_at_call 15; refine (bytes15 _ _ _ _ _ _ _ _ s0 s1).mono ?_; rintro e w' ⟨he | he, hw⟩ <;> obtain rfl : w = w' := hw.symm <;> subst he)
    all_goals (
      go_ret
      exact ⟨rfl, Below.refl _ _⟩)
  by_cases p4 : mb < 0
  · go_enter Try.func4, Try.ntmps4
    go_wp2_with (go_at_call 15; refine (bytes15 _ _ _ _ _ _ _ _ s0 s1).mono ?_; rintro e w' ⟨he | he, hw⟩ <;> obtain rfl : w = w' := hw.symm <;> subst he)
    all_goals (
      go_ret
      exact ⟨rfl, Below.refl _ _⟩)
  by_cases p5 : mb > 255
  · go_enter Try.func4, Try.ntmps4
    go_wp2_with (go_at_call 15; refine (bytes15 _ _ _ _ _ _ _ _ s0 s1).mono ?_; rintro e w' ⟨he | he, hw⟩ <;> obtain rfl : w = w' := hw.symm <;> subst he)
    all_goals (
      go_ret
      exact ⟨rfl, Below.refl _ _⟩)
  omega
end Go.Proofs.Qxb6601138a.Hf
