import Derived.Test.Qxb6600394aAu
namespace Go.Proofs.Qxb6600394a.Dc

theorem stp_d (s : Nat) {x : Int} (h : isDig x = true) : stp s x = some (if s ≤ 2 then 2 else if s ≤ 4 then 4 else 7) := if_pos h
theorem digL_d {x : Int} {l : List Int} (h : isDig x = true) : digL (x :: l) = digL l := by simp [digL, List.dropWhile, h]
theorem digL_n {x : Int} {l : List Int} (h : ¬ isDig x = true) : digL (x :: l) = x :: l := by simp [digL, List.dropWhile, h]
theorem digL_lt {x : Int} {l : List Int} (h : isDig x = true) : (digL (x :: l)).length < (x :: l).length := by
  rw [digL_d h]; have := digL_len l; simp; omega
theorem stp_s {s : Nat} {x : Int} (h : ¬ isDig x = true) (hs : x = 43 ∨ x = 45) : stp s x = (if s = 0 then some 1 else if s = 5 then some 6 else none) := by
  unfold stp; rw [if_neg h, if_pos hs]
theorem stp_e {s : Nat} {x : Int} (h : ¬ isDig x = true) (hs : x = 101 ∨ x = 69) : stp s x = (if s = 2 ∨ s = 4 then some 5 else none) := by
  unfold stp; rw [if_neg h, if_neg (by omega), if_pos hs]
theorem stp_p {s : Nat} {x : Int} (h : ¬ isDig x = true) (hs : x = 46) : stp s x = (if s = 2 then some 3 else none) := by
  unfold stp; rw [if_neg h, if_neg (by omega), if_neg (by omega), if_pos hs]
theorem stp_o {s : Nat} {x : Int} (h : ¬ isDig x = true) (h1 : ¬ (x = 43 ∨ x = 45)) (h2 : ¬ (x = 101 ∨ x = 69)) (h3 : ¬ x = 46) : stp s x = none := by
  unfold stp; rw [if_neg h, if_neg h1, if_neg h2, if_neg h3]
/-- Off the digits, and at a state that takes neither a sign nor e nor a point. -/
theorem stp_7 {s : Nat} {x : Int} (h : ¬ isDig x = true) (h0 : s = 1 ∨ s = 3 ∨ s = 6 ∨ s = 7) : stp s x = none := by
  unfold stp
  rw [if_neg h, if_neg (by omega : ¬ s = 0), if_neg (by omega : ¬ s = 5), if_neg (by omega : ¬ (s = 2 ∨ s = 4)), if_neg (by omega : ¬ s = 2)]
  split
  · rfl
  · split
    · rfl
    · split <;> rfl

theorem aut7 (l : List Int) : autR 7 l = (digL l).isEmpty := by
  induction l with
  | nil => rfl
  | cons x l ih =>
    by_cases h : isDig x = true
    · rw [aut_go (stp_d 7 h), digL_d h]; exact ih
    · rw [aut_no (stp_7 h (by omega)), digL_n h]; rfl
theorem aut6 (l : List Int) : autR 6 l = (if (digL l).length < l.length then (digL l).isEmpty else false) := by
  cases l with
  | nil => rfl
  | cons x l =>
    by_cases h : isDig x = true
    · rw [aut_go (stp_d 6 h), if_pos (digL_lt h), digL_d h]; exact aut7 l
    · rw [aut_no (stp_7 h (by omega)), digL_n h, if_neg (by omega)]
theorem sign_nd {x : Int} (h : x = 43 ∨ x = 45) : ¬ isDig x = true := by simp [isDig]; omega
theorem e_nd {x : Int} (h : x = 101 ∨ x = 69) : ¬ isDig x = true := by simp [isDig]; omega
theorem p_nd {x : Int} (h : x = 46) : ¬ isDig x = true := by simp [isDig]; omega
theorem aut5 (l : List Int) : autR 5 l = autR 6 (signL l) := by
  cases l with
  | nil => rfl
  | cons x l =>
    by_cases hs : x = 43 ∨ x = 45
    · rw [aut_go (stp_s (sign_nd hs) hs)]
      simp [signL, hs]
    · have e : signL (x :: l) = x :: l := by simp [signL, hs]
      rw [e]
      by_cases h : isDig x = true
      · rw [aut_go (stp_d 5 h), aut_go (stp_d 6 h)]; rfl
      · rw [aut_no (stp_7 (s := 6) h (by omega))]
        refine aut_no ?_
        unfold stp
        rw [if_neg h, if_neg hs, if_neg (by omega : ¬ ((5 : Nat) = 2 ∨ (5 : Nat) = 4)), if_neg (by omega : ¬ (5 : Nat) = 2)]
        split
        · rfl
        · split <;> rfl
theorem aut4 (l : List Int) : autR 4 l = tailE (digL l) := by
  induction l with
  | nil => rfl
  | cons x l ih =>
    by_cases h : isDig x = true
    · rw [aut_go (stp_d 4 h), digL_d h]; exact ih
    · rw [digL_n h]
      by_cases he : x = 101 ∨ x = 69
      · rw [aut_go (stp_e h he), tailE_yes he, aut5, aut6]
      · rw [tailE_no he]
        refine aut_no ?_
        unfold stp
        rw [if_neg h, if_neg he, if_neg (by omega : ¬ (4 : Nat) = 0), if_neg (by omega : ¬ (4 : Nat) = 5), if_neg (by omega : ¬ (4 : Nat) = 2)]
        split
        · rfl
        · split <;> rfl
theorem aut3 (l : List Int) : autR 3 l = (if (digL l).length < l.length then tailE (digL l) else false) := by
  cases l with
  | nil => rfl
  | cons x l =>
    by_cases h : isDig x = true
    · rw [aut_go (stp_d 3 h), if_pos (digL_lt h), digL_d h]; exact aut4 l
    · rw [aut_no (stp_7 h (by omega)), digL_n h, if_neg (by omega)]
theorem aut2 (l : List Int) : autR 2 l = fracE (digL l) := by
  induction l with
  | nil => rfl
  | cons x l ih =>
    by_cases h : isDig x = true
    · rw [aut_go (stp_d 2 h), digL_d h]; exact ih
    · rw [digL_n h]
      by_cases hp : x = 46
      · subst hp
        rw [aut_go (stp_p h rfl), aut3]
        by_cases hl : (digL l).length < l.length
        · rw [fracE_yes hl, if_pos hl]
        · rw [fracE_no hl, if_neg hl]
      · rw [fracE_other hp]
        by_cases he : x = 101 ∨ x = 69
        · rw [aut_go (stp_e h he), tailE_yes he, aut5, aut6]
        · rw [tailE_no he]
          refine aut_no ?_
          unfold stp
          rw [if_neg h, if_neg he, if_neg hp, if_neg (by omega : ¬ (2 : Nat) = 0), if_neg (by omega : ¬ (2 : Nat) = 5)]
          split <;> rfl
theorem aut1 (l : List Int) : autR 1 l = (if (digL l).length < l.length then fracE (digL l) else false) := by
  cases l with
  | nil => rfl
  | cons x l =>
    by_cases h : isDig x = true
    · rw [aut_go (stp_d 1 h), if_pos (digL_lt h), digL_d h]; exact aut2 l
    · rw [aut_no (stp_7 h (by omega)), digL_n h, if_neg (by omega)]
theorem aut0 (l : List Int) : autR 0 l = autR 1 (signL l) := by
  cases l with
  | nil => rfl
  | cons x l =>
    by_cases hs : x = 43 ∨ x = 45
    · rw [aut_go (stp_s (sign_nd hs) hs)]
      simp [signL, hs]
    · have e : signL (x :: l) = x :: l := by simp [signL, hs]
      rw [e]
      by_cases h : isDig x = true
      · rw [aut_go (stp_d 0 h), aut_go (stp_d 1 h)]; rfl
      · rw [aut_no (stp_7 (s := 1) h (by omega))]
        refine aut_no ?_
        unfold stp
        rw [if_neg h, if_neg hs, if_neg (by omega : ¬ ((0 : Nat) = 2 ∨ (0 : Nat) = 4)), if_neg (by omega : ¬ (0 : Nat) = 2)]
        split
        · rfl
        · split <;> rfl
theorem aut_isDec (l : List Int) : autR 0 l = isDec l := by
  rw [aut0, aut1]; rfl
end Go.Proofs.Qxb6600394a.Dc
