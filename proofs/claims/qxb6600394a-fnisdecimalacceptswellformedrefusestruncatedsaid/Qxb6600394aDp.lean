import Derived.Test.Qxb6600394aDl
namespace Go.Proofs.Qxb6600394a.Dc

def allD (l : List Int) : Prop := ∀ x ∈ l, isDig x = true
def sgn (s : Int) : List Int := if s % 3 = 1 then [43] else if s % 3 = 2 then [45] else []
def expo (up : Bool) (es : Int) (ze : List Int) : List Int := (if up then 69 else 101) :: (sgn es ++ ze)
def comp (s : Int) (zw : List Int) (hF : Bool) (zf : List Int) (hE up : Bool) (es : Int) (ze : List Int) : List Int :=
  sgn s ++ zw ++ (if hF then 46 :: zf else []) ++ (if hE then expo up es ze else [])

theorem digL_app {l r : List Int} (h : allD l) : digL (l ++ r) = digL r := by
  induction l with
  | nil => rfl
  | cons x l ih =>
    have hx : isDig x = true := h x (by simp)
    rw [List.cons_append, digL_d hx]
    exact ih (fun y hy => h y (by simp [hy]))
theorem digL_app_lt {l r : List Int} (h : allD l) (hne : l ≠ []) : (digL (l ++ r)).length < (l ++ r).length := by
  rw [digL_app h]
  have h1 := digL_len r
  have h2 : 0 < l.length := List.length_pos_iff.2 hne
  simp; omega
/-- What a suffix may begin with, so that neither a sign nor a digit is taken off it. -/
def Hd (r : List Int) : Prop := r = [] ∨ ∃ x t, r = x :: t ∧ (x = 46 ∨ x = 101 ∨ x = 69)
theorem Hd.dig {r : List Int} (h : Hd r) : digL r = r := by
  rcases h with rfl | ⟨x, t, rfl, hx⟩
  · rfl
  · exact digL_n (by simp [isDig]; omega)
theorem Hd.sign {r : List Int} (h : Hd r) : signL r = r := by
  rcases h with rfl | ⟨x, t, rfl, hx⟩
  · rfl
  · simp only [signL]; rw [if_neg (by omega)]
theorem sign_dig {l r : List Int} (h : allD l) (hne : l ≠ []) : signL (l ++ r) = l ++ r := by
  cases l with
  | nil => exact absurd rfl hne
  | cons x l =>
    have hx : isDig x = true := h x (by simp)
    simp [isDig] at hx
    rw [List.cons_append]; simp only [signL]; rw [if_neg (by omega)]
theorem sign_sgn (s : Int) {r : List Int} (h : signL r = r) : signL (sgn s ++ r) = r := by
  unfold sgn
  split
  · simp [signL]
  · split
    · simp [signL]
    · simpa using h

theorem hd_expo (hE up : Bool) (es : Int) (ze : List Int) : Hd (if hE then expo up es ze else []) := by
  cases hE
  · exact Or.inl rfl
  · cases up
    · exact Or.inr ⟨101, _, rfl, by omega⟩
    · exact Or.inr ⟨69, _, rfl, by omega⟩
theorem hd_rest (hF : Bool) (zf : List Int) (hE up : Bool) (es : Int) (ze : List Int) : Hd ((if hF then 46 :: zf else []) ++ (if hE then expo up es ze else [])) := by
  cases hF
  · exact hd_expo hE up es ze
  · exact Or.inr ⟨46, _, rfl, by omega⟩
theorem expo_cons (up : Bool) (es : Int) (ze : List Int) : ∃ y, expo up es ze = y :: (sgn es ++ ze) ∧ (y = 101 ∨ y = 69) := by
  cases up
  · exact ⟨101, rfl, by omega⟩
  · exact ⟨69, rfl, by omega⟩

theorem tail_yes (hE up : Bool) (es : Int) (ze : List Int) (h : hE = true → allD ze ∧ ze ≠ []) : tailE (if hE then expo up es ze else []) = true := by
  cases hE
  · rfl
  · obtain ⟨h1, h2⟩ := h rfl
    obtain ⟨y, e, hy⟩ := expo_cons up es ze
    simp only [if_true]
    have es1 : signL (sgn es ++ ze) = ze := sign_sgn es (by have := sign_dig (r := []) h1 h2; simpa using this)
    have ed : digL ze = [] := by have := digL_app (r := []) h1; rw [List.append_nil] at this; exact this
    rw [e, tailE_yes hy, es1, ed, if_pos (by simpa using List.length_pos_iff.2 h2)]
    rfl
theorem tail_no (up : Bool) (es : Int) : tailE (expo up es []) = false := by
  obtain ⟨y, e, hy⟩ := expo_cons up es []
  have es1 : signL (sgn es ++ []) = [] := sign_sgn es rfl
  rw [e, tailE_yes hy, es1]
  rfl
theorem frac_of_tail (hE up : Bool) (es : Int) (ze : List Int) : fracE (if hE then expo up es ze else []) = tailE (if hE then expo up es ze else []) := by
  cases hE
  · rfl
  · obtain ⟨y, e, hy⟩ := expo_cons up es ze
    simp only [if_true]
    rw [e, fracE_other (by omega)]
theorem frac_eq (hF : Bool) (zf : List Int) (hf : hF = true → allD zf ∧ zf ≠ []) (hE up : Bool) (es : Int) (ze : List Int) :
    fracE ((if hF then 46 :: zf else []) ++ (if hE then expo up es ze else [])) = tailE (if hE then expo up es ze else []) := by
  cases hF
  · simpa using frac_of_tail hE up es ze
  · obtain ⟨h1, h2⟩ := hf rfl
    simp only [if_true, List.cons_append]
    rw [fracE_yes (digL_app_lt h1 h2), digL_app h1, (hd_expo hE up es ze).dig]
theorem isDec_eq (s : Int) (zw : List Int) (hw : allD zw) (hn : zw ≠ []) (r : List Int) (hr : Hd r) : isDec (sgn s ++ (zw ++ r)) = fracE r := by
  unfold isDec
  rw [sign_sgn s (sign_dig hw hn), if_pos (digL_app_lt hw hn), digL_app hw, hr.dig]

theorem comp_eq (s : Int) (zw : List Int) (hF : Bool) (zf : List Int) (hE up : Bool) (es : Int) (ze : List Int) : comp s zw hF zf hE up es ze = sgn s ++ (zw ++ ((if hF then 46 :: zf else []) ++ (if hE then expo up es ze else []))) := by
  unfold comp; simp [List.append_assoc]
theorem law1 (s : Int) (zw : List Int) (hF : Bool) (zf : List Int) (hE up : Bool) (es : Int) (ze : List Int) (hw : allD zw) (hn : zw ≠ []) (hf : hF = true → allD zf ∧ zf ≠ []) (he : hE = true → allD ze ∧ ze ≠ []) : isDec (comp s zw hF zf hE up es ze) = true := by
  rw [comp_eq, isDec_eq s zw hw hn _ (hd_rest hF zf hE up es ze), frac_eq hF zf hf, tail_yes hE up es ze he]
theorem law2 (s : Int) (hF : Bool) (zf : List Int) (hE up : Bool) (es : Int) (ze : List Int) : isDec (comp s [] hF zf hE up es ze) = false := by
  rw [comp_eq, List.nil_append]
  have h := hd_rest hF zf hE up es ze
  unfold isDec
  rw [sign_sgn s h.sign, h.dig, if_neg (by omega)]
theorem law3 (s : Int) (zw : List Int) (hE up : Bool) (es : Int) (ze : List Int) (hw : allD zw) (hn : zw ≠ []) : isDec (comp s zw true [] hE up es ze) = false := by
  rw [comp_eq, isDec_eq s zw hw hn _ (hd_rest true [] hE up es ze)]
  simp only [if_true, List.cons_append, List.nil_append]
  rw [fracE_no (by rw [(hd_expo hE up es ze).dig]; omega)]
theorem law4 (s : Int) (zw : List Int) (hF : Bool) (zf : List Int) (up : Bool) (es : Int) (hw : allD zw) (hn : zw ≠ []) (hf : hF = true → allD zf ∧ zf ≠ []) : isDec (comp s zw hF zf true up es []) = false := by
  rw [comp_eq, isDec_eq s zw hw hn _ (hd_rest hF zf true up es []), frac_eq hF zf hf]
  exact tail_no up es
end Go.Proofs.Qxb6600394a.Dc
