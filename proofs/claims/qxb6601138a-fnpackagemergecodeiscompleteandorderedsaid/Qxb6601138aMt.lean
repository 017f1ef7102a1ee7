import Derived.Test.Qxb6601138aKc
namespace Go.Proofs.Qxb6601138a.Hf
open Go.RowKit Gw
set_option linter.unusedVariables false

set_option maxHeartbeats 1000000 in
theorem total_any (w : World) (b o n c : Nat) (L : Nat → Int) (hn : n ≤ 4096) (rng : ∀ i, i < n → 0 ≤ L i ∧ L i ≤ 18446744073709551615) (hc : ∀ i, i < n → w.cell? ⟨b, o + i, none⟩ = some (.int .u64 (L i))) :
    Calls Try.prog 21 #[.slice (some ⟨b, o, none⟩) n c] w fun e w' => e = .returned (.int .u64 (sm (lwt L) n)) ∧ w' = w := by
  have H : Hid ((∀ i, i < n → 0 ≤ L i ∧ L i ≤ 18446744073709551615) ∧ ∀ i, i < n → w.cell? ⟨b, o + i, none⟩ = some (.int .u64 (L i))) := ⟨rng, hc⟩
  clear rng hc
  go_enter Try.func21, Try.ntmps21
  go_wp2
  go_loop [3, 4] (fun t i => ∃ k : Nat, k ≤ n ∧ i = .int .i64 (k : Int) ∧ t = .int .u64 (sm (lwt L) k)) (fun _ i => n - (intOf i).toNat)
  case atStart => exact ⟨0, by omega, rfl, rfl⟩
  case round =>
    obtain ⟨k, hk, rfl, rfl⟩ := hrel
    by_cases hlt : k < n
    · have f1 := H.out.2 k hlt
      have l1 := (H.out.1 k hlt).1
      have l2 := (H.out.1 k hlt).2
      have b1 : (k : Int) < (n : Int) := by omega
      have pf : ∀ i, i < n → 0 ≤ lwt L i ∧ lwt L i ≤ 281474976710655 := fun i hi => by
        have := H.out.1 i hi; unfold lwt wI; omega
      have s0 : 0 ≤ sm (lwt L) k := sm_nonneg (fun i hi => (pf i (by omega)).1)
      have s1 : sm (lwt L) k ≤ 281474976710655 * (k : Int) := by
        have := sm_le (f := lwt L) (g := fun _ => 281474976710655) (k := k) (fun i hi => (pf i (by omega)).2)
        rwa [sm_const] at this
      have s2 : 0 ≤ wI (L k) := (pf k hlt).1
      have s3 : wI (L k) ≤ 281474976710655 := (pf k hlt).2
      clear pf
      go_wp2_with (go_at_call 22; refine (weight22 _ l1 l2 _).mono ?_; rintro e w' ⟨rfl, hw⟩; obtain rfl : w = w' := hw.symm)
      go_round
      case rel => exact ⟨k + 1, by omega, by go_num, rfl⟩
      case measure => simp [intOf]; omega
    · have ekn : Hid (k = n) := by show k = n; omega
      have b1 : ¬ (k : Int) < (n : Int) := by omega
      go_wp2
      go_ret
      exact ⟨by rw [← ekn.out]; rfl, rfl⟩
end Go.Proofs.Qxb6601138a.Hf
