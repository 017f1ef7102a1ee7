import Derived.Test.Qxb6600394aHw
namespace Go.Proofs.Qxb6600394a.Hf
open Go.RowKit Cl
set_option linter.unusedVariables false

theorem twelve {x : Int} (h1 : 1 ≤ x) (h2 : x ≤ 12) : x = 1 ∨ x = 2 ∨ x = 3 ∨ x = 4 ∨ x = 5 ∨ x = 6 ∨ x = 7 ∨ x = 8 ∨ x = 9 ∨ x = 10 ∨ x = 11 ∨ x = 12 := by omega
def kf (len : Nat → Int) (s : Nat) : Int := ((2 ^ (12 - (len s).toNat) : Nat) : Int)
theorem kf_at {len : Nat → Int} {s : Nat} {x v : Int} (h : len s = x) (hv : ((2 ^ (12 - x.toNat) : Nat) : Int) = v) : kf len s = v := by
  unfold kf; rw [h]; exact hv
theorem kf_nonneg (len : Nat → Int) (s : Nat) : 0 ≤ kf len s := Int.natCast_nonneg _

set_option maxHeartbeats 4000000 in
theorem complete_any (w : World) (Bl n : Nat) (len : Nat → Int) (hn2 : n ≤ 255) (rng : ∀ s, s < n → 1 ≤ len s ∧ len s ≤ 12) (krf : sm (kf len) n = 4096) (hL : w.rowIs Bl 5 n (fun i => .int .u8 (len i))) :
    Calls Try.prog 16 #[.slice (some ⟨Bl, 0, none⟩) n n] w fun e w' => e = .returned (.bool true) ∧ w' = w := by
  have H : Hid (w.rowIs Bl 5 n (fun i => .int .u8 (len i)) ∧ (∀ s, s < n → 1 ≤ len s ∧ len s ≤ 12) ∧ sm (kf len) n = 4096) := ⟨hL, rng, krf⟩
  clear hL rng krf
  go_enter Try.func16, Try.ntmps16
  go_wp2
  go_loop [3, 4] (fun t i => ∃ k : Nat, k ≤ n ∧ i = .int .i64 (k : Int) ∧ t = .int .i64 (sm (kf len) k)) (fun _ i => n - (intOf i).toNat)
  case atStart => exact ⟨0, by omega, rfl, rfl⟩
  case round =>
    obtain ⟨k, hk, rfl, rfl⟩ := hrel
    by_cases hlt : k < n
    · have f1 := H.out.1.cell hlt
      have s0 : 0 ≤ sm (kf len) k := sm_nonneg (fun i _ => kf_nonneg _ _)
      have s1 : sm (kf len) k ≤ 4096 := by
        have := sm_mono (f := kf len) (a := k) (b := n) (by omega) (fun i _ => kf_nonneg _ _)
        have := H.out.2.2; omega
      obtain ⟨x, hx⟩ : ∃ x, len k = x := ⟨_, rfl⟩
      rw [hx] at f1
      have r := H.out.2.1 k hlt
      rw [hx] at r
      have HX : Hid (len k = x) := hx
      clear hx
      obtain ⟨r1, r2⟩ := r
      rcases twelve r1 r2 with rfl | rfl | rfl | rfl | rfl | rfl | rfl | rfl | rfl | rfl | rfl | rfl
      all_goals (
        go_wp2
        go_round
        case rel => exact ⟨k + 1, by omega, by go_num, by rw [sm_succ, kf_at HX.out rfl]; rfl⟩
        case measure => simp [intOf]; omega)
    · have ekn : Hid (sm (kf len) k = 4096) := by
        have e : k = n := by omega
        rw [e]; exact H.out.2.2
      go_wp2
      go_ret
      exact ⟨by rw [ekn.out]; rfl, rfl⟩

def cf (c len : Nat → Int) (s : Nat) : Int := c s * len s
set_option maxHeartbeats 1000000 in
theorem cost_any (w : World) (Bc Bl n : Nat) (c len : Nat → Int) (hn2 : n ≤ 255) (hc : ∀ i, i < n → 1 ≤ c i ∧ c i ≤ 1073741824) (rng : ∀ s, s < n → 1 ≤ len s ∧ len s ≤ 12) (hC : w.rowIs Bc 3 n (fun i => .int .i64 (c i))) (hL : w.rowIs Bl 5 n (fun i => .int .u8 (len i))) :
    Calls Try.prog 17 #[.slice (some ⟨Bc, 0, none⟩) n n, .slice (some ⟨Bl, 0, none⟩) n n] w fun e w' => e = .returned (.int .i64 (sm (cf c len) n)) ∧ Below w.heap.size w w' := by
  have H : Hid (w.rowIs Bc 3 n (fun i => .int .i64 (c i)) ∧ w.rowIs Bl 5 n (fun i => .int .u8 (len i)) ∧ (∀ s, s < n → 1 ≤ len s ∧ len s ≤ 12) ∧ ∀ i, i < n → 1 ≤ c i ∧ c i ≤ 1073741824) := ⟨hC, hL, rng, hc⟩
  clear hL rng hC hc
  have pf : ∀ i, i < n → 0 ≤ cf c len i ∧ cf c len i ≤ 1073741824 * 12 := fun i hi => by
    have h1 := H.out.2.2.2 i hi
    have h2 := H.out.2.2.1 i hi
    unfold cf
    exact ⟨Int.mul_nonneg (by omega) (by omega), Int.mul_le_mul h1.2 h2.2 (by omega) (by omega)⟩
  have PF : Hid (∀ i, i < n → 0 ≤ cf c len i ∧ cf c len i ≤ 1073741824 * 12) := pf
  clear pf
  go_enter Try.func17, Try.ntmps17
  go_wp2
  go_loopw [5, 6] (fun t i wr => ∃ k : Nat, k ≤ n ∧ i = .int .i64 (k : Int) ∧ t = .int .i64 (sm (cf c len) k) ∧ ∃ nq, wr = w.drewN nq) (fun _ i _ => n - (intOf i).toNat)
  case atStart => exact ⟨0, by omega, rfl, rfl, 0, rfl⟩
  case round =>
    obtain ⟨k, hk, rfl, rfl, nq, rfl⟩ := hrel
    by_cases hlt : k < n
    · have f1 : w.cell? ⟨Bc, k, none⟩ = some (.int .i64 (c k)) := H.out.1.cell hlt
      have f2 : w.cell? ⟨Bl, k, none⟩ = some (.int .u8 (len k)) := H.out.2.1.cell hlt
      have s0 : 0 ≤ sm (cf c len) k := sm_nonneg (fun i hi => (PF.out i (by omega)).1)
      have s1 : sm (cf c len) k ≤ 1073741824 * 12 * (k : Int) := by
        have := sm_le (f := cf c len) (g := fun _ => 1073741824 * 12) (k := k) (fun i hi => (PF.out i (by omega)).2)
        rwa [sm_const] at this
      have p0 : 0 ≤ c k * len k := (PF.out k hlt).1
      have p1 : c k * len k ≤ 12884901888 := (PF.out k hlt).2
      have l1 := (H.out.2.2.1 k hlt).1
      have l2 := (H.out.2.2.1 k hlt).2
      have b1 : (k : Int) < (n : Int) := by omega
      go_wp2
      go_quiet (fail)
      go_wp2
      go_roundw
      case rel => exact ⟨k + 1, by omega, by go_num, rfl, _, rfl⟩
      case measure => simp [intOf]; omega
    · have ekn : Hid (k = n) := by show k = n; omega
      go_wp2
      go_ret
      exact ⟨by rw [← ekn.out]; rfl, ⟨rfl, rfl, rfl, Nat.le_refl _, fun _ _ => rfl⟩⟩
end Go.Proofs.Qxb6600394a.Hf
