import Derived.Test.Qxb6601138aKf
import Derived.Test.Qxb6601138aKg
import Derived.Test.Qxb6601138aKh
import Derived.Test.Qxb6601138aKi
namespace Go.Proofs.Qxb6601138a.Hf
open Go.RowKit Gw

theorem complete_at (a0 : Option Addr) (nl c0 : Nat) (z0 : List Int) (a1 : Option Addr) (n c1 : Nat) (z1 : List Int) (mb : Int) (w : World) (h0 : IsRowH .u8 w a0 nl c0 z0) (h1 : IsRowH .u64 w a1 n c1 z1) :
    Calls Try.prog 4 #[.slice a0 nl c0, .slice a1 n c1, .int .i64 mb] w fun e w' => OK w e w' := by
  by_cases hh : (nl : Int) > 65536 ∨ (n : Int) > 4096 ∨ (n : Int) < 2 ∨ mb < 0 ∨ mb > 255
  · exact complete_early a0 nl c0 z0 a1 n c1 z1 mb w h0 h1 hh
  · obtain ⟨M, rfl⟩ : ∃ M : Nat, mb = (M : Int) := ⟨mb.toNat, by omega⟩
    by_cases p6 : (M : Int) ≥ (n : Int) - 1
    · by_cases m1 : (M : Int) < 12
      · exact complete_Kf a0 nl c0 z0 a1 n c1 z1 M w h0 h1 (by omega) (by omega) (by omega) (by omega) (by omega) p6 m1
      · exact complete_Kg a0 nl c0 z0 a1 n c1 z1 M w h0 h1 (by omega) (by omega) (by omega) (by omega) (by omega) p6 m1
    · by_cases m1 : (M : Int) < 12
      · exact complete_Kh a0 nl c0 z0 a1 n c1 z1 M w h0 h1 (by omega) (by omega) (by omega) (by omega) (by omega) p6 m1
      · exact complete_Ki a0 nl c0 z0 a1 n c1 z1 M w h0 h1 (by omega) (by omega) (by omega) (by omega) (by omega) p6 m1
end Go.Proofs.Qxb6601138a.Hf
