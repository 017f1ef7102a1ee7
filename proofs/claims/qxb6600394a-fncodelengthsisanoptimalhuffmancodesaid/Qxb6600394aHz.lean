import Derived.Test.Qxb6600394aHy
namespace Go.Proofs.Qxb6600394a.Hf
open Go.RowKit Cl
set_option linter.unusedVariables false

/-- WHAT THE WALK IS TOLD OF A SLICE OF INTEGERS THAT CAME IN. -/
def IsRow (k : IntKind) (w : World) (a : Option Addr) (len cap : Nat) (zs : List Int) : Prop :=
  (a = none ∧ len = 0 ∧ cap = 0 ∧ zs = []) ∨
  ∃ x, a = some x ∧ len ≤ cap ∧ cap ≤ maxLen ∧ zs.length = cap ∧ (∀ i, i < zs.length → w.cell? (x.add i) = some (.int k (zs.getD i 0))) ∧ ∀ n ∈ zs, (Lit.int k n).wf = true
theorem IsRow.len {k : IntKind} {w : World} {a : Option Addr} {len cap : Nat} {zs : List Int} (h : IsRow k w a len cap zs) : len ≤ maxLen := by
  rcases h with ⟨_, rfl, _, _⟩ | ⟨x, _, h1, h2, _⟩
  · exact Nat.zero_le _
  · omega
theorem ret_bool {a b : Bool} (h : a = b) : Ending.returned (.bool a) = .returned (.bool b) := by rw [h]

theorem bytes11 (a : Option Addr) (n c : Nat) (w : World) (hn : n ≤ maxLen) :
    Calls Try.prog 11 #[.slice a n c] w fun e w' => e = .returned (.bool (decide (n ≤ 1048576))) ∧ w' = w := by
  unfold maxLen at hn
  by_cases h : n ≤ 1048576
  · have e : decide (n ≤ 1048576) = true := decide_eq_true h
    rw [e]
    clear e
    go_enter Try.func11, Try.ntmps11
    go_wp2
    go_ret
    exact ⟨rfl, rfl⟩
  · have e : decide (n ≤ 1048576) = false := decide_eq_false h
    rw [e]
    clear e
    go_enter Try.func11, Try.ntmps11
    go_wp2
    go_ret
    exact ⟨rfl, rfl⟩
theorem bytes19 (a : Option Addr) (n c : Nat) (w : World) (hn : n ≤ maxLen) :
    Calls Try.prog 19 #[.slice a n c] w fun e w' => e = .returned (.bool (decide (n ≤ 1048576))) ∧ w' = w := by
  unfold maxLen at hn
  by_cases h : n ≤ 1048576
  · have e : decide (n ≤ 1048576) = true := decide_eq_true h
    rw [e]
    clear e
    go_enter Try.func19, Try.ntmps19
    go_wp2
    go_ret
    exact ⟨rfl, rfl⟩
  · have e : decide (n ≤ 1048576) = false := decide_eq_false h
    rw [e]
    clear e
    go_enter Try.func19, Try.ntmps19
    go_wp2
    go_ret
    exact ⟨rfl, rfl⟩

/-- The counts' clone, nil or not. -/
theorem clone_ints (w : World) (a : Option Addr) (len cap : Nat) (zs : List Int) (h : IsRow .i64 w a len cap zs) (hl : len ≤ 1048576) :
    Calls Try.prog 12 #[.slice a len cap] w fun e w' => ∃ a' : Option Addr, e = .returned (.slice a' len len) ∧ (0 < len → a' = some ⟨w.heap.size, 0, none⟩ ∧ w'.rowIs w.heap.size 3 len (fun i => .int .i64 (zs.getD i 0))) ∧ Below w.heap.size w w' := by
  rcases h with ⟨rfl, rfl, rfl, rfl⟩ | ⟨x, rfl, h1, h2, h3, h4, h5⟩
  · refine (cloneI_nil w).mono ?_
    rintro e w' ⟨rfl, rfl⟩
    exact ⟨none, rfl, fun h => by omega, Below.refl _ _⟩
  · refine (cloneI_any x len cap (fun i => zs.getD i 0) w (by omega) (fun i hi => h4 i (by omega))).mono ?_
    rintro e w' ⟨rfl, hr, hb, hs⟩
    exact ⟨_, rfl, fun _ => ⟨rfl, hr⟩, hb⟩

theorem Fit.le {n : Nat} {c : Nat → Int} (h : Fit n c) {i : Nat} (hi : i < n) : 1 ≤ c i ∧ c i ≤ 1073741824 :=
  ⟨h.2.2.1 i hi, Int.le_trans (sm_term (fun i hi => by have := h.2.2.1 i hi; omega) hi) h.2.2.2⟩

set_option maxHeartbeats 1000000 in
theorem optimal_any (a : Option Addr) (len cap : Nat) (zs : List Int) (w : World) (h : IsRow .i64 w a len cap zs) :
    Calls Try.prog 3 #[.slice a len cap] w fun e w' => e = .returned (.bool true) ∧ Below w.heap.size w w' := by
  have hm := h.len
  have H : Hid (IsRow .i64 w a len cap zs) := h
  clear h
  by_cases hl : len ≤ 1048576
  · have hd : decide (len ≤ 1048576) = true := decide_eq_true hl
    by_cases hl2 : len ≤ 65536
    · have b1 : ¬ 65536 < (len : Int) := by omega
      go_enter Try.func3, Try.ntmps3
      go_wp2_with fail
      refine (bytes11 a len cap _ hm).mono ?_
      rintro e w1 ⟨rfl, rfl⟩
      rw [hd]
      clear hd
      go_wp2_with fail
      refine (clone_ints _ a len cap zs H.out hl).mono ?_
      rintro e w2 ⟨a', rfl, hrow, hbel⟩
      have A : Hid ((0 < len → a' = some ⟨w1.heap.size, 0, none⟩ ∧ w2.rowIs w1.heap.size 3 len (fun i => .int .i64 (zs.getD i 0))) ∧ Below w1.heap.size w1 w2) := ⟨hrow, hbel⟩
      clear hrow hbel
      by_cases hn : 2 ≤ len ∧ len ≤ 255
      · obtain ⟨hn1, hn2⟩ := hn
        obtain ⟨rfl, hrow⟩ := A.out.1 (by omega)
        have R : Hid (w2.rowIs w1.heap.size 3 len (fun i => .int .i64 (zs.getD i 0)) ∧ Below w1.heap.size w1 w2) := ⟨hrow, A.out.2⟩
        clear hrow A
        go_wp2_with fail
        refine (countsFit_in _ w1.heap.size len (fun i => zs.getD i 0) hn1 hn2 R.out.1).mono ?_
        rintro e w3 ⟨⟨b, rfl, hb⟩, rfl⟩
        cases b with
        | false =>
          clear hb
          go_wp2
          go_ret
          exact ⟨rfl, R.out.2⟩
        | true =>
          have F : Hid (Fit len (fun i => zs.getD i 0)) := hb rfl
          clear hb
          go_wp2_with fail
          refine (unlimited_any _ w1.heap.size len (fun i => zs.getD i 0) F.out R.out.1).mono ?_
          rintro e w4 ⟨⟨b, rfl, hb⟩, rfl⟩
          cases b with
          | false =>
            clear hb
            go_wp2
            go_ret
            exact ⟨rfl, R.out.2⟩
          | true =>
            have U : Hid (Unl len (fun i => zs.getD i 0)) := hb rfl
            clear hb
            go_wp2_with fail
            refine (lengthsOf_any _ w1.heap.size len (fun i => zs.getD i 0) hn1 hn2 F.out.2.2.1 F.out.2.2.2 R.out.1).mono ?_
            rintro e w5 ⟨rfl, lf, g1, g2, g3⟩
            have G : Hid (w5.rowIs w4.heap.size 5 len (fun i => .int .u8 (lf i)) ∧ Good len (fun i => zs.getD i 0) lf ∧ w5.rowIs w1.heap.size 3 len (fun i => .int .i64 (zs.getD i 0)) ∧ Below w1.heap.size w1 w5) :=
              ⟨g1, g2, rowIs_below R.out.1 g3 R.out.1.lt, R.out.2.trans (g3.mono R.out.2.size)⟩
            clear g1 g2 g3
            go_wp2_with fail
            refine (complete_any _ w4.heap.size len lf hn2 G.out.2.1.rng G.out.2.1.krf G.out.1).mono ?_
            rintro e w6 ⟨rfl, rfl⟩
            go_wp2_with fail
            refine (cost_any _ w1.heap.size w4.heap.size len (fun i => zs.getD i 0) lf hn2 (fun i hi => F.out.le hi) G.out.2.1.rng G.out.2.2.1 G.out.1).mono ?_
            rintro e w7 ⟨rfl, hb7⟩
            have B7 : Hid (Below w6.heap.size w6 w7) := hb7
            clear hb7
            have R7 : Hid (w7.rowIs w1.heap.size 3 len (fun i => .int .i64 (zs.getD i 0))) := rowIs_below G.out.2.2.1 B7.out G.out.2.2.1.lt
            go_wp2_with fail
            refine (huffmanCost_any _ w1.heap.size len (fun i => zs.getD i 0) F.out R7.out).mono ?_
            rintro e w8 ⟨⟨C, rfl, hC⟩, hb8⟩
            have Q8 : Hid (sm (cf (fun i => zs.getD i 0) lf) len = C) := G.out.2.1.opt U.out C hC
            have B8 : Hid (Below w1.heap.size w1 w8) := (G.out.2.2.2.trans (B7.out.mono G.out.2.2.2.size)).trans (hb8.mono (Nat.le_trans G.out.2.2.2.size B7.out.size))
            clear hC hb8
            go_wp2
            go_ret
            refine ⟨ret_bool ?_, B8.out⟩
            rw [beq_iff_eq]; exact Q8.out
      · go_wp2_with fail
        refine (countsFit_out _ a' len len hl hn).mono ?_
        rintro e w3 ⟨rfl, rfl⟩
        go_wp2
        go_ret
        exact ⟨rfl, A.out.2⟩
    · have b1 : 65536 < (len : Int) := by omega
      go_enter Try.func3, Try.ntmps3
      go_wp2_with fail
      refine (bytes11 a len cap _ hm).mono ?_
      rintro e w1 ⟨rfl, rfl⟩
      rw [hd]
      clear hd
      go_wp2
      go_ret
      exact ⟨rfl, Below.refl _ _⟩
  · have hd : decide (len ≤ 1048576) = false := decide_eq_false hl
    go_enter Try.func3, Try.ntmps3
    go_wp2_with fail
    refine (bytes11 a len cap _ hm).mono ?_
    rintro e w1 ⟨rfl, rfl⟩
    rw [hd]
    clear hd
    go_wp2
    go_ret
    exact ⟨rfl, Below.refl _ _⟩
end Go.Proofs.Qxb6600394a.Hf
