import Derived.Test.Qxb6601138aNb
import Derived.Test.Qxb6601138aNc
import Derived.Test.Qxb6601138aNd
namespace Go.Proofs.Qxb6601138a.Hf
open Go.RowKit Gw

theorem merge_at (a0 : Option Addr) (nl c0 : Nat) (z0 : List Int) (a1 : Option Addr) (n c1 : Nat) (z1 : List Int) (mb : Int) (w : World) (h0 : IsRowH .u8 w a0 nl c0 z0) (h1 : IsRowH .u64 w a1 n c1 z1) :
    Calls Try.prog 6 #[.slice a0 nl c0, .slice a1 n c1, .int .i64 mb] w fun e w' => OK w e w' := by
  by_cases hh : (nl : Int) > 65536 ∨ (n : Int) > 4096 ∨ mb < 1 ∨ mb > 255
  · exact merge_early a0 nl c0 z0 a1 n c1 z1 mb w h0 h1 hh
  · obtain ⟨M, rfl⟩ : ∃ M : Nat, mb = (M : Int) := ⟨mb.toNat, by omega⟩
    by_cases cnt : (n : Int) ≤ ((2 ^ M : Nat) : Int)
    · rcases (show n = 0 ∨ (1 ≤ n ∧ n < 2) ∨ 2 ≤ n by omega) with rfl | e | e
      · exact merge_zero a0 nl c0 z0 a1 c1 M w h0 (by omega) (by omega) (by omega)
      · exact merge_one a0 nl c0 z0 a1 n c1 z1 M w h0 h1 (by omega) (by omega) (by omega) (by omega) cnt e
      · exact merge_two a0 nl c0 z0 a1 n c1 z1 M w h0 h1 (by omega) (by omega) (by omega) (by omega) cnt e
    · have m1 : (M : Int) < 12 := by
        rcases Nat.lt_or_ge M 12 with h | h
        · omega
        · have := Nat.pow_le_pow_right (n := 2) (by omega) h
          omega
      exact merge_guard a0 nl c0 z0 a1 n c1 z1 M w h0 h1 (by omega) (by omega) (by omega) m1 (by omega)
end Go.Proofs.Qxb6601138a.Hf
