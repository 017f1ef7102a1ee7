import Derived.Test.Qxb6601138aKc
namespace Go.Proofs.Qxb6601138a.Hf
open Go.RowKit Gw
set_option linter.unusedVariables false

theorem sorted_nil (w : World) (a : Option Addr) (c nl : Nat) :
    Calls Try.prog 9 #[.slice a 0 c, .int .i64 (nl : Int)] w fun e w' => e = .returned (.bool true) ∧ w' = w := by
  go_enter Try.func9, Try.ntmps9
  go_wp2
  go_loopw [5] (fun i wr => i = .int .i64 0 ∧ wr = w) (fun i _ => 0)
  case atStart => exact ⟨rfl, rfl⟩
  case round =>
    obtain ⟨rfl, rfl⟩ := hrel
    go_wp2
    go_ret
    exact ⟨rfl, rfl⟩
theorem distinct_nil (w : World) (a : Option Addr) (c nl : Nat) (hnl : nl ≤ 65536) :
    Calls Try.prog 16 #[.slice a 0 c, .int .i64 (nl : Int)] w fun e w' => e = .returned (.bool true) ∧ Below w.heap.size w w' := by
  have k1 := run_make_row' 38 4 (.bool false) 1 Try.underlying38 info4 rfl .i64 .i64 nl (by omega) (by omega)
  go_enter Try.func16, Try.ntmps16
  go_wp2
  clear k1
  go_loopw [6] (fun i wr => i = .int .i64 0 ∧ Below w.heap.size w wr) (fun i _ => 0)
  case atStart => exact ⟨rfl, (Below.refl _ _).alloc (Nat.le_refl _) _⟩
  case round =>
    obtain ⟨rfl, hb⟩ := hrel
    have HB : Hid (Below w.heap.size w wr) := hb
    clear hb
    go_wp2
    go_ret
    exact ⟨rfl, HB.out⟩
theorem total_nil (w : World) (a : Option Addr) (c : Nat) :
    Calls Try.prog 21 #[.slice a 0 c] w fun e w' => e = .returned (.int .u64 0) ∧ w' = w := by
  go_enter Try.func21, Try.ntmps21
  go_wp2
  go_loopw [3, 4] (fun t i wr => t = .int .u64 0 ∧ i = .int .i64 0 ∧ wr = w) (fun _ i _ => 0)
  case atStart => exact ⟨rfl, rfl, rfl⟩
  case round =>
    obtain ⟨rfl, rfl, rfl⟩ := hrel
    go_wp2
    go_ret
    exact ⟨rfl, rfl⟩
theorem cloneB_nil (w : World) (n c : Nat) :
    Calls Try.prog 10 #[.slice none n c] w fun e w' => e = .returned (.slice none 0 0) ∧ w' = w := by
  have q := eql22
  go_enter Try.func10, Try.ntmps10
  go_wp2
  go_ret
  exact ⟨rfl, rfl⟩
theorem cloneL_nil (w : World) (n c : Nat) :
    Calls Try.prog 11 #[.slice none n c] w fun e w' => e = .returned (.slice none 0 0) ∧ w' = w := by
  have q := eql23
  go_enter Try.func11, Try.ntmps11
  go_wp2
  go_ret
  exact ⟨rfl, rfl⟩
set_option maxHeartbeats 2000000 in
theorem others_nil (w : World) (a0 a1 a2 : Option Addr) (B Bo nl c : Nat) (f g : Nat → Int) (hnl : nl ≤ 65536) (h : Hid (0 < nl → a0 = some ⟨B, 0, none⟩ ∧ a1 = some ⟨Bo, 0, none⟩ ∧ w.rowIs B 5 nl (fun i => .int .u8 (f i)) ∧ w.rowIs Bo 5 nl (fun i => .int .u8 (g i)))) (same : Hid (∀ s, s < nl → f s = g s)) :
    Calls Try.prog 17 #[.slice a0 nl nl, .slice a1 nl nl, .slice a2 0 c] w fun e w' => e = .returned (.bool true) ∧ Below w.heap.size w w' := by
  have k1 := run_make_row' 38 4 (.bool false) 1 Try.underlying38 info4 rfl .i64 .i64 nl (by omega) (by omega)
  go_enter Try.func17, Try.ntmps17
  go_wp2
  clear k1
  go_loopw [8] (fun i wr => i = .int .i64 0 ∧ wr.rowIs w.heap.size 4 nl (fun i => .bool false) ∧ Below w.heap.size w wr) (fun i _ => 0)
  case atStart => exact ⟨rfl, World.rowIs_made w (.bool false) nl 4, (Below.refl _ _).alloc (Nat.le_refl _) _⟩
  case round =>
    obtain ⟨rfl, hr, hb⟩ := hrel
    have R2 : Hid (wr.rowIs w.heap.size 4 nl (fun i => .bool false) ∧ Below w.heap.size w wr) := ⟨hr, hb⟩
    clear hr hb
    go_wp2
    obtain ⟨wo, rfl⟩ : ∃ wo : World, wo = wr := ⟨_, rfl⟩
    go_loopw [9] (fun ri wr => ∃ j : Nat, j ≤ nl ∧ ri = .int .i64 (j : Int) ∧ ∃ nq, wr = wo.drewN nq) (fun ri _ => nl - (intOf ri).toNat)
    case atStart => exact ⟨0, by omega, rfl, 0, rfl⟩
    case round =>
      obtain ⟨j, hj, rfl, hwr⟩ := hrel
      have HN : Hid (∃ nq, wr = wo.drewN nq) := hwr
      have R3 : Hid (wr.rowIs w.heap.size 4 nl (fun i => .bool false) ∧ Below w.heap.size w wr) := by
        obtain ⟨nq, rfl⟩ := hwr
        exact ⟨R2.out.1.of_block rfl, below_drw R2.out.2 nq⟩
      clear hwr
      by_cases hjn : j < nl
      · have b9 : (j : Int) < (nl : Int) := by omega
        have f1 := R3.out.1.cell hjn
        obtain ⟨rfl, rfl, y1, y2⟩ := h.out (by omega)
        have f2 := (row_below y1 R3.out.2 y1.lt).cell hjn
        have f3 := (row_below y2 R3.out.2 y2.lt).cell hjn
        have es := same.out j hjn
        rw [es] at f2
        clear es y1 y2
        go_wp2
        go_quiet (fail)
        go_wp2
        go_roundw
        case rel => exact ⟨j + 1, by omega, by go_num, drewN_ex HN.out _⟩
        case measure => simp [intOf]; omega
      · have b9 : ¬ (j : Int) < (nl : Int) := by omega
        go_wp2
        go_ret
        exact ⟨rfl, R3.out.2⟩
end Go.Proofs.Qxb6601138a.Hf
