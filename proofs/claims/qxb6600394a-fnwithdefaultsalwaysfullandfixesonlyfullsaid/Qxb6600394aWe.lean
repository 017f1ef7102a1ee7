import Derived.Test.Qxb6600394aWd
namespace Go.Proofs.Qxb6600394a.Wd
open Go.RowKit

theorem zwd_any (a0 a1 a2 a3 : ByteArray) (a4 : Int) (w : World) :
    Calls Try.prog 32 #[.agg #[.string a0, .string a1, .string a2, .string a3, .int .i64 a4]] w fun e w' => e = .returned (.agg #[.string (df a0 dTs), .string (df a1 dVal), .string (df a2 dAuto), .string (df a3 dAuto), .int .i64 (di a4)]) ∧ ∃ o1 o2 o3 o4 : Array Value, (((w.alloc (.cells o1 40)).alloc (.cells o2 40)).alloc (.cells o3 40)).alloc (.cells o4 40) = w' := by
  go_enter Try.func32, Try.ntmps32
  go_wp2_with (go_at_call 38; refine (wd_any _ _ _ _ _ _).mono ?_; rintro e w' ⟨rfl, rfl⟩)
  refine bodyPost_ret (v := .agg #[.string (df a0 dTs), .string (df a1 dVal), .string (df a2 dAuto), .string (df a3 dAuto), .int .i64 (di a4)]) ?_ rfl ⟨rfl, _, _, _, _, rfl⟩
  simp [results, Try.results32, go_sem]

theorem opt_any (a0 a1 a2 a3 : ByteArray) (a4 : Int) (w : World) :
    Calls Try.prog 33 #[.string a0, .string a1, .string a2, .string a3, .int .i64 a4] w fun e w' => e = .returned (.agg #[.string a0, .string a1, .string a2, .string a3, .int .i64 a4]) ∧ ∃ o1 : Array Value, w.alloc (.cells o1 40) = w' := by
  go_enter Try.func33, Try.ntmps33
  go_wp2
  refine bodyPost_ret (v := .agg #[.string a0, .string a1, .string a2, .string a3, .int .i64 a4]) ?_ rfl ⟨rfl, _, rfl⟩
  simp [results, Try.results33, go_sem]

/-- Some bool is returned. -/
def SomeB (e : Ending) : Prop := ∃ b : Bool, e = .returned (.bool b)

set_option maxHeartbeats 1000000 in
theorem long_any (a0 a1 a2 a3 : ByteArray) (w : World) (h0 : a0.size ≤ maxLen) (h1 : a1.size ≤ maxLen) (h2 : a2.size ≤ maxLen) (h3 : a3.size ≤ maxLen) :
    Calls Try.prog 31 #[.string a0, .string a1, .string a2, .string a3] w fun e w' => SomeB e ∧ w' = w := by
  unfold maxLen at h0 h1 h2 h3
  go_enter Try.func31, Try.ntmps31
  go_wp2
  all_goals (go_ret; exact ⟨⟨_, rfl⟩, rfl⟩)

theorem ba_toList (a : ByteArray) : a.toList = a.data.toList := ByteArray.toList_eq a
theorem df_pos (a d : ByteArray) (h : 0 < d.size) : 0 < (df a d).size := by
  unfold df
  split
  · exact h
  · rename_i h'
    rcases Nat.eq_zero_or_pos a.size with h0 | h0
    · exfalso; apply h'
      have : a.data = #[] := Array.size_eq_zero_iff.1 h0
      rw [ba_toList, this]; rfl
    · exact h0
theorem df_ne (a d : ByteArray) (h : 0 < d.size) : (((df a d).size : Int) == 0) = false := by
  have := df_pos a d h
  rw [beq_eq_false_iff_ne]; omega
theorem df_eq (a d : ByteArray) (h : 0 < d.size) : (df a d).toList = a.toList ↔ 0 < a.size := by
  constructor
  · intro e
    have h1 := df_pos a d h
    rw [ba_toList, ba_toList] at e
    have := congrArg List.length e
    simp at this
    omega
  · intro h0
    unfold df
    rw [if_neg]
    intro h'
    rw [ba_toList] at h'
    simp at h'
    have h2 : a.data.size = 0 := by rw [h']; rfl
    have h3 : a.size = a.data.size := rfl
    omega
theorem di_ne (a : Int) : (di a == 0) = false := by
  unfold di
  by_cases h : (a == 0) = true
  · simp [h]
  · rw [if_neg h]; simpa using h
theorem di_eq (a : Int) : di a = a ↔ ¬ a = 0 := by
  unfold di
  by_cases h : a = 0
  · simp [h]
  · simp [h]

set_option maxHeartbeats 1000000 in
theorem main_any (a0 a1 a2 a3 : ByteArray) (a4 : Int) (w : World) (w0 : a0.size ≤ maxLen) (w1 : a1.size ≤ maxLen) (w2 : a2.size ≤ maxLen) (w3 : a3.size ≤ maxLen) :
    Calls Try.prog 10 #[.string a0, .string a1, .string a2, .string a3, .int .i64 a4] w fun e w' => e = .returned (.bool true) ∧ Grown w w' := by
  have d0 : (((df a0 dTs).size : Int) == 0) = false := df_ne _ _ (by decide)
  have d1 : (((df a1 dVal).size : Int) == 0) = false := df_ne _ _ (by decide)
  have d2 : (((df a2 dAuto).size : Int) == 0) = false := df_ne _ _ (by decide)
  have d3 : (((df a3 dAuto).size : Int) == 0) = false := df_ne _ _ (by decide)
  have d4 : (di a4 == 0) = false := di_ne _
  have E : Hid (((df a0 dTs).toList = a0.toList ↔ 0 < a0.size) ∧ ((df a1 dVal).toList = a1.toList ↔ 0 < a1.size) ∧ ((df a2 dAuto).toList = a2.toList ↔ 0 < a2.size) ∧ ((df a3 dAuto).toList = a3.toList ↔ 0 < a3.size) ∧ (di a4 = a4 ↔ ¬ a4 = 0)) := ⟨df_eq _ _ (by decide), df_eq _ _ (by decide), df_eq _ _ (by decide), df_eq _ _ (by decide), di_eq _⟩
  go_enter Try.func10, Try.ntmps10
  go_wp2_with (first | (go_at_call 34; refine (bytes_any _ _ _ _ _ _ w0 w1 w2 w3).mono ?_; rintro e w' ⟨⟨b, rfl⟩, rfl⟩) | (go_at_call 31; refine (long_any _ _ _ _ _ w0 w1 w2 w3).mono ?_; rintro e w' ⟨⟨b, rfl⟩, rfl⟩) | (go_at_call 33; refine (opt_any _ _ _ _ _ _).mono ?_; rintro e w' ⟨rfl, o1, rfl⟩) | (go_at_call 32; refine (zwd_any _ _ _ _ _ _).mono ?_; rintro e w' ⟨rfl, o2, o3, o4, o5, rfl⟩))
  all_goals (
    go_ret
    refine ⟨?_, by repeat (first | exact Grown.refl _ | apply Grown.drew | apply Grown.alloc)⟩
    obtain ⟨e0, e1, e2, e3, e4⟩ := E.out
    clear w0 w1 w2 w3 d0 d1 d2 d3 d4
    first | rfl | (simp_all; done))
end Go.Proofs.Qxb6600394a.Wd
