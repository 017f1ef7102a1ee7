import Derived.Test.Qxb6600394aHz
namespace Go.Proofs.Qxb6600394a.Hf
open Go.RowKit Cl
set_option linter.unusedVariables false

set_option maxHeartbeats 4000000 in
theorem ordered_any (a : Option Addr) (len cap : Nat) (zs : List Int) (w : World) (h : IsRow .i64 w a len cap zs) :
    Calls Try.prog 4 #[.slice a len cap] w fun e w' => e = .returned (.bool true) ∧ Below w.heap.size w w' := by
  have hm := h.len
  have H : Hid (IsRow .i64 w a len cap zs) := h
  clear h
  by_cases hl : len ≤ 1048576
  · have hd : decide (len ≤ 1048576) = true := decide_eq_true hl
    by_cases hl2 : len ≤ 65536
    · have b1 : ¬ 65536 < (len : Int) := by omega
      go_enter Try.func4, Try.ntmps4
      go_wp2_with fail
      refine (bytes19 a len cap _ hm).mono ?_
      rintro e w1 ⟨rfl, rfl⟩
      rw [hd]
      clear hd
      go_wp2_with fail
      refine (clone_ints _ a len cap zs H.out hl).mono ?_
      rintro e w2 ⟨a', rfl, hrow, hbel⟩
      have A : Hid ((0 < len → a' = some ⟨w1.heap.size, 0, none⟩ ∧ w2.rowIs w1.heap.size 3 len (fun i => .int .i64 (zs.getD i 0))) ∧ Below w1.heap.size w1 w2) := ⟨hrow, hbel⟩
      clear hrow hbel
      by_cases hn : 2 ≤ len ∧ len ≤ 255
      · obtain ⟨hn1, hn2⟩ := hn
        obtain ⟨rfl, hrow⟩ := A.out.1 (by omega)
        have R : Hid (w2.rowIs w1.heap.size 3 len (fun i => .int .i64 (zs.getD i 0)) ∧ Below w1.heap.size w1 w2) := ⟨hrow, A.out.2⟩
        clear hrow A
        go_wp2_with fail
        refine (countsFit_in _ w1.heap.size len (fun i => zs.getD i 0) hn1 hn2 R.out.1).mono ?_
        rintro e w3 ⟨⟨b, rfl, hb⟩, rfl⟩
        cases b with
        | false =>
          clear hb
          go_wp2
          go_ret
          exact ⟨rfl, R.out.2⟩
        | true =>
          have F : Hid (Fit len (fun i => zs.getD i 0)) := hb rfl
          clear hb
          go_wp2_with fail
          refine (lengthsOf_any _ w1.heap.size len (fun i => zs.getD i 0) hn1 hn2 F.out.2.2.1 F.out.2.2.2 R.out.1).mono ?_
          rintro e w5 ⟨rfl, lf, g1, g2, g3⟩
          have G : Hid (w5.rowIs w3.heap.size 5 len (fun i => .int .u8 (lf i)) ∧ Good len (fun i => zs.getD i 0) lf ∧ w5.rowIs w1.heap.size 3 len (fun i => .int .i64 (zs.getD i 0)) ∧ Below w1.heap.size w1 w5) :=
            ⟨g1, g2, rowIs_below R.out.1 g3 R.out.1.lt, R.out.2.trans (g3.mono R.out.2.size)⟩
          clear g1 g2 g3
          go_wp2_with fail
          refine (complete_any _ w3.heap.size len lf hn2 G.out.2.1.rng G.out.2.1.krf G.out.1).mono ?_
          rintro e w6 ⟨rfl, rfl⟩
          go_wp2
          have CC : Hid ((∀ i j, i < len → j < len → zs.getD j 0 < zs.getD i 0 → lf i ≤ lf j) ∧ (∀ i j, i < j → j < len → zs.getD i 0 = zs.getD j 0 → lf j ≤ lf i)) := ⟨fun i j hi hj hc => G.out.2.1.ord1 i j hi hj hc, fun i j hij hj hc => G.out.2.1.ord2 i j hij hj hc⟩
          go_loopw [5] (fun ri wr => ∃ (i nq : Nat), i ≤ len ∧ ri = .int .i64 (i : Int) ∧ wr = w6.drewN nq) (fun ri _ => len - (intOf ri).toNat)
          case atStart => exact ⟨0, 0, by omega, rfl, rfl⟩
          case round =>
            obtain ⟨i, nq1, hi, rfl, rfl⟩ := hrel
            by_cases hil : i < len
            · have b2 : (i : Int) < (len : Int) := by omega
              go_wp2
              go_loopw [6] (fun rj wr => ∃ (j nq : Nat), j ≤ len ∧ rj = .int .i64 (j : Int) ∧ wr = w6.drewN nq) (fun rj _ => len - (intOf rj).toNat)
              case atStart => exact ⟨0, nq1, by omega, rfl, rfl⟩
              case round =>
                obtain ⟨j, nq2, hj, rfl, rfl⟩ := hrel
                by_cases hjl : j < len
                · have b3 : (j : Int) < (len : Int) := by omega
                  obtain ⟨ci, hci⟩ : ∃ x, zs.getD i 0 = x := ⟨_, rfl⟩
                  obtain ⟨cj, hcj⟩ : ∃ x, zs.getD j 0 = x := ⟨_, rfl⟩
                  have f1 : w6.cell? ⟨w1.heap.size, i, none⟩ = some (.int .i64 ci) := by rw [← hci]; exact G.out.2.2.1.cell hil
                  have f2 : w6.cell? ⟨w1.heap.size, j, none⟩ = some (.int .i64 cj) := by rw [← hcj]; exact G.out.2.2.1.cell hjl
                  have f3 := G.out.1.cell hil
                  have f4 := G.out.1.cell hjl
                  have HC' : Hid (zs.getD i 0 = ci ∧ zs.getD j 0 = cj) := ⟨hci, hcj⟩
                  clear hci hcj
                  rcases Int.lt_trichotomy ci cj with h | h | h
                  · have d1 : decide (cj < ci) = false := decide_eq_false (by omega)
                    have d2 : (ci == cj) = false := by rw [beq_eq_false_iff_ne]; omega
                    go_wp2
                    go_quiet (fail)
                    go_wp2
                    go_quiet (fail)
                    go_wp2
                    go_roundw
                    case rel => exact ⟨j + 1, _, by omega, by go_num, rfl⟩
                    case measure => simp [intOf]; omega
                  · have HE : Hid (ci = cj) := h
                    have d1 : decide (cj < ci) = false := decide_eq_false (by omega)
                    have d2 : (ci == cj) = true := by rw [beq_iff_eq]; exact h
                    clear h
                    by_cases hij : i < j
                    · have d3 : (i : Int) < (j : Int) := by omega
                      have d4 : ¬ lf i < lf j := by have := CC.out.2 i j hij hjl (by rw [HC'.out.1, HC'.out.2]; exact HE.out); omega
                      go_wp2
                      go_quiet (fail)
                      go_wp2
                      go_quiet (fail)
                      go_wp2
                      go_roundw
                      case rel => exact ⟨j + 1, _, by omega, by go_num, rfl⟩
                      case measure => simp [intOf]; omega
                    · have d3 : decide ((i : Int) < (j : Int)) = false := decide_eq_false (by omega)
                      go_wp2
                      go_quiet (fail)
                      go_wp2
                      go_quiet (fail)
                      go_wp2
                      go_roundw
                      case rel => exact ⟨j + 1, _, by omega, by go_num, rfl⟩
                      case measure => simp [intOf]; omega
                  · have d2 : (ci == cj) = false := by rw [beq_eq_false_iff_ne]; omega
                    have d4 : ¬ lf j < lf i := by have := CC.out.1 i j hil hjl (by rw [HC'.out.1, HC'.out.2]; exact h); omega
                    go_wp2
                    go_quiet (fail)
                    go_wp2
                    go_quiet (fail)
                    go_wp2
                    go_roundw
                    case rel => exact ⟨j + 1, _, by omega, by go_num, rfl⟩
                    case measure => simp [intOf]; omega
                · go_wp2
                  go_roundw
                  case rel => exact ⟨i + 1, _, by omega, by go_num, rfl⟩
                  case measure => simp [intOf]; omega
            · have G2 : Hid ((w6.drewN nq1).rowIs w3.heap.size 5 len (fun i => .int .u8 (lf i)) ∧ Good len (fun i => zs.getD i 0) lf ∧ (w6.drewN nq1).rowIs w1.heap.size 3 len (fun i => .int .i64 (zs.getD i 0)) ∧ Below w1.heap.size w1 (w6.drewN nq1)) :=
                ⟨G.out.1, G.out.2.1, G.out.2.2.1, ⟨G.out.2.2.2.os, G.out.2.2.2.tape, G.out.2.2.2.output, G.out.2.2.2.size, G.out.2.2.2.block⟩⟩
              clear CC
              go_wp2_with fail
              refine (cost_any _ w1.heap.size w3.heap.size len (fun i => zs.getD i 0) lf hn2 (fun i hi => F.out.le hi) G2.out.2.1.rng G2.out.2.2.1 G2.out.1).mono ?_
              rintro e w7 ⟨rfl, hb7⟩
              have B7 : Hid (Below (w6.drewN nq1).heap.size (w6.drewN nq1) w7) := hb7
              clear hb7
              have R7 : Hid (w7.rowIs w1.heap.size 3 len (fun i => .int .i64 (zs.getD i 0))) := rowIs_below G2.out.2.2.1 B7.out G2.out.2.2.1.lt
              go_wp2_with fail
              refine (huffmanCost_any _ w1.heap.size len (fun i => zs.getD i 0) F.out R7.out).mono ?_
              rintro e w8 ⟨⟨C, rfl, hC⟩, hb8⟩
              have Q8 : Hid (C ≤ sm (cf (fun i => zs.getD i 0) lf) len) := low (by omega) G2.out.2.1.rng G2.out.2.1.krf (fun s hs => by have := (F.out.le hs).1; show (0 : Int) ≤ _; exact Int.le_trans (by decide) this) hC
              have B8 : Hid (Below w1.heap.size w1 w8) := (G2.out.2.2.2.trans (B7.out.mono G2.out.2.2.2.size)).trans (hb8.mono (Nat.le_trans G2.out.2.2.2.size B7.out.size))
              clear hC hb8
              go_wp2
              go_ret
              refine ⟨ret_bool ?_, B8.out⟩
              exact decide_eq_true Q8.out
      · go_wp2_with fail
        refine (countsFit_out _ a' len len hl hn).mono ?_
        rintro e w3 ⟨rfl, rfl⟩
        go_wp2
        go_ret
        exact ⟨rfl, A.out.2⟩
    · have b1 : 65536 < (len : Int) := by omega
      go_enter Try.func4, Try.ntmps4
      go_wp2_with fail
      refine (bytes19 a len cap _ hm).mono ?_
      rintro e w1 ⟨rfl, rfl⟩
      rw [hd]
      clear hd
      go_wp2
      go_ret
      exact ⟨rfl, Below.refl _ _⟩
  · have hd : decide (len ≤ 1048576) = false := decide_eq_false hl
    go_enter Try.func4, Try.ntmps4
    go_wp2_with fail
    refine (bytes19 a len cap _ hm).mono ?_
    rintro e w1 ⟨rfl, rfl⟩
    rw [hd]
    clear hd
    go_wp2
    go_ret
    exact ⟨rfl, Below.refl _ _⟩
end Go.Proofs.Qxb6600394a.Hf
