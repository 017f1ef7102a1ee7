import Derived.Test.Qxb6600394aRows
import Derived.WalkKit
import Derived.WalkSpells
import Derived.WalkLawsBesides
namespace Go.Proofs.Qxb6600394a.Wd
open Go.RowKit

theorem bytes_any (a0 a1 a2 a3 : ByteArray) (a4 : Int) (w : World) (h0 : a0.size ≤ maxLen) (h1 : a1.size ≤ maxLen) (h2 : a2.size ≤ maxLen) (h3 : a3.size ≤ maxLen) :
    Calls Try.prog 34 #[.string a0, .string a1, .string a2, .string a3, .int .i64 a4] w fun e w' => (∃ b, e = .returned (.bool b)) ∧ w' = w := by
  unfold maxLen at h0 h1 h2 h3
  go_enter Try.func34, Try.ntmps34
  go_wp2
  all_goals (go_ret; exact ⟨⟨_, rfl⟩, rfl⟩)

def df (a d : ByteArray) : ByteArray := if a.toList.isEmpty = true then d else a
def di (a : Int) : Int := if (a == 0) = true then 1000 else a
def dTs : ByteArray := { data := #[116, 105, 109, 101, 115, 116, 97, 109, 112] }
def dVal : ByteArray := { data := #[118, 97, 108, 117, 101] }
def dAuto : ByteArray := { data := #[97, 117, 116, 111] }

set_option maxHeartbeats 1000000 in
theorem wd_any (a0 a1 a2 a3 : ByteArray) (a4 : Int) (w : World) :
    Calls Try.prog 38 #[.agg #[.string a0, .string a1, .string a2, .string a3, .int .i64 a4]] w fun e w' => e = .returned (.agg #[.string (df a0 dTs), .string (df a1 dVal), .string (df a2 dAuto), .string (df a3 dAuto), .int .i64 (di a4)]) ∧ (w.alloc (.cells #[.string (df a0 dTs), .string (df a1 dVal), .string (df a2 dAuto), .string (df a3 dAuto), .int .i64 (di a4)] 40)).alloc (.cells #[.string (df a0 dTs), .string (df a1 dVal), .string (df a2 dAuto), .string (df a3 dAuto), .int .i64 (di a4)] 40) = w' := by
  go_enter Try.func38, Try.ntmps38
  go_wp2
  all_goals (
    refine bodyPost_ret (v := .agg #[.string (df a0 dTs), .string (df a1 dVal), .string (df a2 dAuto), .string (df a3 dAuto), .int .i64 (di a4)]) ?_ rfl ⟨rfl, ?_⟩
    · simp [results, Try.results38, go_sem, df, di, dTs, dVal, dAuto, *]
    · simp [df, di, dTs, dVal, dAuto, *])

end Go.Proofs.Qxb6600394a.Wd
