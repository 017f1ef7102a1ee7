import Derived.Test.Qxb6600394aDl
import Derived.Test.Qxb6600394aCl
namespace Go.Proofs.Qxb6600394a.Dc
open Go.RowKit Cl

/-- WHAT THE WALK IS TOLD OF A SLICE OF INTEGERS THAT CAME IN. -/
def IsRow (k : IntKind) (w : World) (a : Option Addr) (len cap : Nat) (zs : List Int) : Prop :=
  (a = none ∧ len = 0 ∧ cap = 0 ∧ zs = []) ∨
  ∃ x, a = some x ∧ len ≤ cap ∧ cap ≤ maxLen ∧ zs.length = cap ∧ (∀ i, i < zs.length → w.cell? (x.add i) = some (.int k (zs.getD i 0))) ∧ ∀ n ∈ zs, (Lit.int k n).wf = true

/-- The bytes' clone, nil or not: what the callees ask of it. -/
theorem clone_row (w : World) (a : Option Addr) (len cap : Nat) (zs : List Int) (h : IsRow .u8 w a len cap zs) (hl : len ≤ 1048576) :
    Calls Try.prog 23 #[.slice a len cap] w fun e w' => ∃ (a' : Option Addr) (n' : Nat) (ys : List Int), e = .returned (.slice a' n' n') ∧ n' = ys.length ∧ n' = len ∧ ys = zs.take len ∧ Rd w' a' .u8 ys ∧ (∀ b, a' = some b → b.block < w'.heap.size) ∧ Below w.heap.size w w' := by
  rcases h with ⟨rfl, rfl, rfl, rfl⟩ | ⟨x, rfl, h1, h2, h3, h4, h5⟩
  · refine (cloneB_nil w).mono ?_
    rintro e w' ⟨rfl, rfl⟩
    exact ⟨none, 0, [], rfl, rfl, rfl, rfl, fun i hi => by simp at hi, fun b hb => by simp at hb, Below.refl _ _⟩
  · refine (cloneB_any x len cap (fun i => zs.getD i 0) w (by omega) (fun i hi => h4 i (by omega))).mono ?_
    rintro e w' ⟨rfl, hr, hb, hs⟩
    refine ⟨some ⟨w.heap.size, 0, none⟩, len, zs.take len, rfl, by simp; omega, rfl, rfl, ?_, ?_, hb⟩
    · intro i hi
      have hi' : i < len := by simp at hi; omega
      refine ⟨_, rfl, (hr.cell hi').trans ?_⟩
      simp [List.getD_eq_getElem?_getD, hi']
    · intro b hb'
      simp at hb'
      subst hb'
      show w.heap.size < _
      omega

theorem rd_below {w w' : World} {a : Option Addr} {k : IntKind} {ys : List Int} (h : Rd w a k ys) (hb : Below w.heap.size w w') : Rd w' a k ys := by
  intro i hi
  obtain ⟨b, hab, hc⟩ := h i hi
  exact ⟨b, hab, (hb.cell (p := ⟨b, i, none⟩) (cell_lt hc)).trans hc⟩

theorem bytes22 (a : Option Addr) (n c : Nat) (w : World) (hn : n ≤ maxLen) :
    Calls Try.prog 22 #[.slice a n c] w fun e w' => e = .returned (.bool (decide (n ≤ 1048576))) ∧ w' = w := by
  unfold maxLen at hn
  by_cases h : n ≤ 1048576
  · have e : decide (n ≤ 1048576) = true := decide_eq_true h
    rw [e]
    clear e
    go_enter Try.func22, Try.ntmps22
    go_wp2
    go_ret
    exact ⟨rfl, rfl⟩
  · have e : decide (n ≤ 1048576) = false := decide_eq_false h
    rw [e]
    clear e
    go_enter Try.func22, Try.ntmps22
    go_wp2
    go_ret
    exact ⟨rfl, rfl⟩

set_option maxHeartbeats 400000 in
theorem agrees_any (a : Option Addr) (len cap : Nat) (zs : List Int) (w : World) (h : IsRow .u8 w a len cap zs) :
    Calls Try.prog 6 #[.slice a len cap] w fun e w' => e = .returned (.bool true) ∧ Below w.heap.size w w' := by
  have hm : len ≤ maxLen := by
    rcases h with ⟨_, rfl, _, _⟩ | ⟨x, _, h1, h2, _⟩
    · unfold maxLen; omega
    · omega
  have H : Hid (IsRow .u8 w a len cap zs) := h
  clear h
  by_cases hl : len ≤ 1048576
  · have HL : Hid (len ≤ 1048576) := hl
    have hd : decide (len ≤ 1048576) = true := decide_eq_true hl
    go_enter Try.func6, Try.ntmps6
    go_wp2_with fail
    refine (bytes22 a len cap _ hm).mono ?_
    rintro e w1 ⟨rfl, rfl⟩
    go_wp2_with fail
    refine (clone_row _ a len cap zs H.out hl).mono ?_
    rintro e w2 ⟨a', n', ys, rfl, hn, hn2, hys, hr, hlt, hb⟩
    have A : Hid (n' = ys.length ∧ Rd w2 a' .u8 ys ∧ Below w1.heap.size w1 w2) := ⟨hn, hr, hb⟩
    have hn4 : n' ≤ 4194304 := by omega
    clear hn hn2 hys hr hlt hb
    go_wp2_with fail
    refine (zIsDecimal_any _ a' n' n' ys A.out.1 hn4 A.out.2.1).mono ?_
    rintro e w3 ⟨rfl, hb3⟩
    have B : Hid (Below w2.heap.size w2 w3) := hb3
    clear hb3
    go_wp2_with fail
    refine (automaton_any _ a' n' n' ys A.out.1 hn4 (rd_below A.out.2.1 B.out)).mono ?_
    rintro e w4 ⟨rfl, rfl⟩
    rw [aut_isDec]
    go_wp2
    go_ret
    refine ⟨ret_bool (by simp), A.out.2.2.trans (B.out.mono A.out.2.2.size)⟩
  · have hd : decide (len ≤ 1048576) = false := decide_eq_false hl
    go_enter Try.func6, Try.ntmps6
    go_wp2_with fail
    refine (bytes22 a len cap _ hm).mono ?_
    rintro e w1 ⟨rfl, rfl⟩
    go_wp2
    go_ret
    exact ⟨rfl, Below.refl _ _⟩
end Go.Proofs.Qxb6600394a.Dc
