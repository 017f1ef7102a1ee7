/-
  PLAIN: PACKAGE-MERGE: the sizes of the lists. Nothing of Go here.
-/
import Derived.Test.Qxb6601138aMq
namespace Go.Proofs.Qxb6601138a.Hf
set_option linter.unusedVariables false

/-- The size of the list r levels above the deepest. -/
def szl (n : Nat) : Nat → Nat
  | 0 => n
  | r + 1 => n + szl n r / 2
theorem szl_succ (n r : Nat) : szl n (r + 1) = n + szl n r / 2 := rfl
theorem szl_le (n : Nat) : ∀ r, n ≤ szl n r ∧ szl n r ≤ 2 * n := by
  intro r
  induction r with
  | zero => exact ⟨Nat.le_refl _, by show n ≤ 2 * n; omega⟩
  | succ r ih => rw [szl_succ]; omega
theorem szl_ge {n m : Nat} (hn : n ≤ 2 ^ m) : ∀ r, r ≤ m → 2 * n ≤ szl n r + 2 ^ (m - r) := by
  intro r
  induction r with
  | zero => intro _; rw [Nat.sub_zero]; show 2 * n ≤ n + 2 ^ m; omega
  | succ r ih =>
    intro hr
    have h := ih (by omega)
    have e : 2 ^ (m - r) = 2 * 2 ^ (m - (r + 1)) := by
      rw [show m - r = m - (r + 1) + 1 by omega, Nat.pow_succ]; omega
    rw [e] at h
    rw [szl_succ]
    omega
theorem szl_top {n m : Nat} (hn : n ≤ 2 ^ m) (hm : 1 ≤ m) : 2 * n - 2 ≤ szl n (m - 1) := by
  have h := szl_ge hn (m - 1) (by omega)
  rw [show m - (m - 1) = 1 by omega] at h
  omega
/-- The sum of a merged list. -/
theorem merged_sum {n sz' : Nat} {lw v' : Nat → Int} {f' : Nat → Bool} {s : MS} (h' : LV n lw sz' v' f') (h : MSum lw (pwt v') s) (e1 : s.i = n) (e2 : s.j = sz' / 2) : sm s.v (n + sz' / 2) ≤ sm lw n + sm v' sz' := by
  have hs : sm s.v (s.i + s.j) = sm lw s.i + sm (pwt v') s.j := h
  rw [e1, e2, sm_pwt] at hs
  have := sm_mono' (f := v') (a := 2 * (sz' / 2)) (b := sz') (by omega) h'.pos
  omega
/-- A pair weighs no more than its list. -/
theorem pwt_le {n sz : Nat} {lw v : Nat → Int} {f : Nat → Bool} (h : LV n lw sz v f) {j : Nat} (hj : j < sz / 2) : pwt v j ≤ sm v sz := by
  have h1 := sm_term (f := pwt v) (k := sz / 2) (j := j) h.pwp hj
  rw [sm_pwt] at h1
  have := sm_mono' (f := v) (a := 2 * (sz / 2)) (b := sz) (by omega) h.pos
  omega
end Go.Proofs.Qxb6601138a.Hf
