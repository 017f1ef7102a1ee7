import Derived.Test.Qxb6601138aGw
import Derived.Test.Qxb6601138aQs
namespace Go.Proofs.Qxb6601138a.Hf
open Go.RowKit Gw
set_option linter.unusedVariables false

/-- A leaf's symbol and weight. -/
def sN (x : Int) : Nat := (x % 65536).toNat
def wI (x : Int) : Int := x / 65536
theorem and_mask (x : Int) (h0 : 0 ≤ x) (h1 : x ≤ 18446744073709551615) : wrap64 (bits BinOp.and IntKind.u64 x 65535) = ((sN x : Nat) : Int) := by
  have e : bits BinOp.and IntKind.u64 x 65535 = ((sN x : Nat) : Int) := by
    rw [u64_and x 65535 h0 (by omega) (by omega) (by omega)]
    have e2 : x.toNat &&& (65535 : Int).toNat = x.toNat % 65536 := Nat.and_two_pow_sub_one_eq_mod x.toNat 16
    rw [e2]
    unfold sN
    omega
  rw [e]
  have : sN x < 65536 := by unfold sN; omega
  unfold wrap64
  omega
theorem sN_lt (x : Int) : sN x < 65536 := by unfold sN; omega

theorem weight22 (x : Int) (h0 : 0 ≤ x) (h1 : x ≤ 18446744073709551615) (w : World) :
    Calls Try.prog 22 #[.int .u64 x] w fun e w' => e = .returned (.int .u64 (wI x)) ∧ w' = w := by
  go_enter Try.func22, Try.ntmps22
  go_wp2
  go_ret
  exact ⟨rfl, rfl⟩
theorem weight32 (x : Int) (h0 : 0 ≤ x) (h1 : x ≤ 18446744073709551615) (w : World) :
    Calls Try.prog 32 #[.int .u64 x] w fun e w' => e = .returned (.int .u64 (wI x)) ∧ w' = w := by
  go_enter Try.func32, Try.ntmps32
  go_wp2
  go_ret
  exact ⟨rfl, rfl⟩
theorem ret_i64 {a b : Int} (h : a = b) : Ending.returned (.int .i64 a) = .returned (.int .i64 b) := by rw [h]
theorem sym13 (x : Int) (h0 : 0 ≤ x) (h1 : x ≤ 18446744073709551615) (w : World) :
    Calls Try.prog 13 #[.int .u64 x] w fun e w' => e = .returned (.int .i64 ((sN x : Nat) : Int)) ∧ w' = w := by
  go_enter Try.func13, Try.ntmps13
  go_wp2
  go_ret
  exact ⟨ret_i64 (and_mask x h0 h1), rfl⟩
theorem sym33 (x : Int) (h0 : 0 ≤ x) (h1 : x ≤ 18446744073709551615) (w : World) :
    Calls Try.prog 33 #[.int .u64 x] w fun e w' => e = .returned (.int .i64 ((sN x : Nat) : Int)) ∧ w' = w := by
  go_enter Try.func33, Try.ntmps33
  go_wp2
  go_ret
  exact ⟨ret_i64 (and_mask x h0 h1), rfl⟩
end Go.Proofs.Qxb6601138a.Hf
