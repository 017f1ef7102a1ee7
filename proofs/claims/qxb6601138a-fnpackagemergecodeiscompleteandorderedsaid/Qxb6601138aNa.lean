import Derived.Test.Qxb6601138aKe
import Derived.Test.Qxb6601138aMx
import Derived.Test.Qxb6601138aMz
import Derived.Test.Qxb6601138aMt
import Derived.Deep.CutBlock
namespace Go.Proofs.Qxb6601138a.Hf
open Go.RowKit Gw
set_option linter.unusedVariables false

set_option maxRecDepth 100000 in
set_option maxHeartbeats 16000000 in
theorem merge_early (a0 : Option Addr) (nl c0 : Nat) (z0 : List Int) (a1 : Option Addr) (n c1 : Nat) (z1 : List Int) (mb : Int) (w : World) (h0 : IsRowH .u8 w a0 nl c0 z0) (h1 : IsRowH .u64 w a1 n c1 z1) (hh : (nl : Int) > 65536 ∨ (n : Int) > 4096 ∨ mb < 1 ∨ mb > 255) :
    Calls Try.prog 6 #[.slice a0 nl c0, .slice a1 n c1, .int .i64 mb] w fun e w' => OK w e w' := by
  have s0 := h0.small
  have s1 := h1.small
  clear h0 h1
  by_cases p1 : (nl : Int) > 65536
  · go_enter Try.func6, Try.ntmps6
    go_wp2_with (go_at_call 24; refine (bytes24 _ _ _ _ _ _ _ _ s0 s1).mono ?_; rintro e w' ⟨he | he, hw⟩ <;> obtain rfl : w = w' := hw.symm <;> subst he)
    all_goals (
      go_ret
      exact ⟨rfl, Below.refl _ _⟩)
  by_cases p2 : (n : Int) > 4096
  · go_enter Try.func6, Try.ntmps6
    go_wp2_with (go_at_call 24; refine (bytes24 _ _ _ _ _ _ _ _ s0 s1).mono ?_; rintro e w' ⟨he | he, hw⟩ <;> obtain rfl : w = w' := hw.symm <;> subst he)
    all_goals (
      go_ret
      exact ⟨rfl, Below.refl _ _⟩)
  by_cases p3 : mb < 1
  · go_enter Try.func6, Try.ntmps6
    go_wp2_with (go_at_call 24; refine (bytes24 _ _ _ _ _ _ _ _ s0 s1).mono ?_; rintro e w' ⟨he | he, hw⟩ <;> obtain rfl : w = w' := hw.symm <;> subst he)
    all_goals (
      go_ret
      exact ⟨rfl, Below.refl _ _⟩)
  by_cases p4 : mb > 255
  · go_enter Try.func6, Try.ntmps6
    go_wp2_with (go_at_call 24; refine (bytes24 _ _ _ _ _ _ _ _ s0 s1).mono ?_; rintro e w' ⟨he | he, hw⟩ <;> obtain rfl : w = w' := hw.symm <;> subst he)
    all_goals (
      go_ret
      exact ⟨rfl, Below.refl _ _⟩)
  omega
set_option maxRecDepth 100000 in
set_option maxHeartbeats 16000000 in
theorem merge_guard (a0 : Option Addr) (nl c0 : Nat) (z0 : List Int) (a1 : Option Addr) (n c1 : Nat) (z1 : List Int) (M : Nat) (w : World) (h0 : IsRowH .u8 w a0 nl c0 z0) (h1 : IsRowH .u64 w a1 n c1 z1) (p1 : ¬ (nl : Int) > 65536) (p2 : ¬ (n : Int) > 4096) (p3 : ¬ (M : Int) < 1) (m1 : (M : Int) < 12) (cnt : ((2 ^ M : Nat) : Int) < (n : Int)) :
    Calls Try.prog 6 #[.slice a0 nl c0, .slice a1 n c1, .int .i64 (M : Int)] w fun e w' => OK w e w' := by
  have s0 := h0.small
  have s1 := h1.small
  clear h0 h1
  rcases (show M = 1 ∨ M = 2 ∨ M = 3 ∨ M = 4 ∨ M = 5 ∨ M = 6 ∨ M = 7 ∨ M = 8 ∨ M = 9 ∨ M = 10 ∨ M = 11 by omega) with rfl | rfl | rfl | rfl | rfl | rfl | rfl | rfl | rfl | rfl | rfl
  · have cv : (n : Int) > 2 := cnt
    clear cnt
    go_enter Try.func6, Try.ntmps6
    go_wp2_with (go_at_call 24; refine (bytes24 _ _ _ _ _ _ _ _ s0 s1).mono ?_; rintro e w' ⟨he | he, hw⟩ <;> obtain rfl : w = w' := hw.symm <;> subst he)
    all_goals (
      go_ret
      exact ⟨rfl, Below.refl _ _⟩)
  · have cv : (n : Int) > 4 := cnt
    clear cnt
    go_enter Try.func6, Try.ntmps6
    go_wp2_with (go_at_call 24; refine (bytes24 _ _ _ _ _ _ _ _ s0 s1).mono ?_; rintro e w' ⟨he | he, hw⟩ <;> obtain rfl : w = w' := hw.symm <;> subst he)
    all_goals (
      go_ret
      exact ⟨rfl, Below.refl _ _⟩)
  · have cv : (n : Int) > 8 := cnt
    clear cnt
    go_enter Try.func6, Try.ntmps6
    go_wp2_with (go_at_call 24; refine (bytes24 _ _ _ _ _ _ _ _ s0 s1).mono ?_; rintro e w' ⟨he | he, hw⟩ <;> obtain rfl : w = w' := hw.symm <;> subst he)
    all_goals (
      go_ret
      exact ⟨rfl, Below.refl _ _⟩)
  · have cv : (n : Int) > 16 := cnt
    clear cnt
    go_enter Try.func6, Try.ntmps6
    go_wp2_with (go_at_call 24; refine (bytes24 _ _ _ _ _ _ _ _ s0 s1).mono ?_; rintro e w' ⟨he | he, hw⟩ <;> obtain rfl : w = w' := hw.symm <;> subst he)
    all_goals (
      go_ret
      exact ⟨rfl, Below.refl _ _⟩)
  · have cv : (n : Int) > 32 := cnt
    clear cnt
    go_enter Try.func6, Try.ntmps6
    go_wp2_with (go_at_call 24; refine (bytes24 _ _ _ _ _ _ _ _ s0 s1).mono ?_; rintro e w' ⟨he | he, hw⟩ <;> obtain rfl : w = w' := hw.symm <;> subst he)
    all_goals (
      go_ret
      exact ⟨rfl, Below.refl _ _⟩)
  · have cv : (n : Int) > 64 := cnt
    clear cnt
    go_enter Try.func6, Try.ntmps6
    go_wp2_with (go_at_call 24; refine (bytes24 _ _ _ _ _ _ _ _ s0 s1).mono ?_; rintro e w' ⟨he | he, hw⟩ <;> obtain rfl : w = w' := hw.symm <;> subst he)
    all_goals (
      go_ret
      exact ⟨rfl, Below.refl _ _⟩)
  · have cv : (n : Int) > 128 := cnt
    clear cnt
    go_enter Try.func6, Try.ntmps6
    go_wp2_with (go_at_call 24; refine (bytes24 _ _ _ _ _ _ _ _ s0 s1).mono ?_; rintro e w' ⟨he | he, hw⟩ <;> obtain rfl : w = w' := hw.symm <;> subst he)
    all_goals (
      go_ret
      exact ⟨rfl, Below.refl _ _⟩)
  · have cv : (n : Int) > 256 := cnt
    clear cnt
    go_enter Try.func6, Try.ntmps6
    go_wp2_with (go_at_call 24; refine (bytes24 _ _ _ _ _ _ _ _ s0 s1).mono ?_; rintro e w' ⟨he | he, hw⟩ <;> obtain rfl : w = w' := hw.symm <;> subst he)
    all_goals (
      go_ret
      exact ⟨rfl, Below.refl _ _⟩)
  · have cv : (n : Int) > 512 := cnt
    clear cnt
    go_enter Try.func6, Try.ntmps6
    go_wp2_with (go_at_call 24; refine (bytes24 _ _ _ _ _ _ _ _ s0 s1).mono ?_; rintro e w' ⟨he | he, hw⟩ <;> obtain rfl : w = w' := hw.symm <;> subst he)
    all_goals (
      go_ret
      exact ⟨rfl, Below.refl _ _⟩)
  · have cv : (n : Int) > 1024 := cnt
    clear cnt
    go_enter Try.func6, Try.ntmps6
    go_wp2_with (go_at_call 24; refine (bytes24 _ _ _ _ _ _ _ _ s0 s1).mono ?_; rintro e w' ⟨he | he, hw⟩ <;> obtain rfl : w = w' := hw.symm <;> subst he)
    all_goals (
      go_ret
      exact ⟨rfl, Below.refl _ _⟩)
  · have cv : (n : Int) > 2048 := cnt
    clear cnt
    go_enter Try.func6, Try.ntmps6
    go_wp2_with (go_at_call 24; refine (bytes24 _ _ _ _ _ _ _ _ s0 s1).mono ?_; rintro e w' ⟨he | he, hw⟩ <;> obtain rfl : w = w' := hw.symm <;> subst he)
    all_goals (
      go_ret
      exact ⟨rfl, Below.refl _ _⟩)
end Go.Proofs.Qxb6601138a.Hf
