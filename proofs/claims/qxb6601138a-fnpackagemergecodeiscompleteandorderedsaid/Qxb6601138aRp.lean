import Derived.Test.Qxb6601138aKc
namespace Go.Proofs.Qxb6601138a.Hf
open Go.RowKit Gw
set_option linter.unusedVariables false

theorem and32 (x : Int) (h0 : 0 ≤ x) (h1 : x ≤ 4294967295) : bits BinOp.and IntKind.u64 x 4294967295 = x := by
  rw [u64_and x 4294967295 (by omega) (by omega) (by omega) (by omega)]
  have e2 : x.toNat &&& (4294967295 : Int).toNat = x.toNat % 4294967296 := Nat.and_two_pow_sub_one_eq_mod x.toNat 32
  rw [e2]
  omega
set_option maxHeartbeats 1000000 in
theorem mul37 (n : Nat) (hn : n ≤ 4096) (w : World) :
    Calls Try.prog 37 #[.int .u64 1, .int .u64 (n : Int)] w fun e w' => e = .returned (.tuple #[.int .u64 0, .int .u64 (n : Int)]) ∧ w' = w := by
  have a1 := and32 (n : Int) (by omega) (by omega)
  have a2 := and32 1 (by omega) (by omega)
  have a3 := and32 0 (by omega) (by omega)
  have a4 : (n : Int) / 4294967296 = 0 := by omega
  go_enter Try.func37, Try.ntmps37
  go_wp2
  go_ret2
  exact ⟨rfl, rfl⟩
set_option maxHeartbeats 1000000 in
theorem mul35 (n : Nat) (hn : n ≤ 4096) (w : World) :
    Calls Try.prog 35 #[.int .u64 1, .int .u64 (n : Int)] w fun e w' => e = .returned (.tuple #[.int .u64 0, .int .u64 (n : Int)]) ∧ w' = w := by
  go_enter Try.func35, Try.ntmps35
  go_wp2_with (go_at_call 37; refine (mul37 n hn _).mono ?_; rintro e w' ⟨rfl, rfl⟩)
  go_ret2
  exact ⟨rfl, rfl⟩
end Go.Proofs.Qxb6601138a.Hf
