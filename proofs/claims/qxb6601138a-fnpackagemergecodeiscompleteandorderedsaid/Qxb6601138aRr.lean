import Derived.Test.Qxb6601138aRq
namespace Go.Proofs.Qxb6601138a.Hf
open Go.RowKit Gw
set_option linter.unusedVariables false

set_option maxHeartbeats 1000000 in
theorem repeat_any (n : Nat) (hn : n ≤ 4096) (h1 : 1 ≤ n) (w : World) (b : Nat) (hbs : b < w.heap.size) (hb : w.cell? ⟨b, 0, none⟩ = some (.bool true)) :
    Calls Try.prog 34 #[.slice (some ⟨b, 0, none⟩) 1 1, .int .i64 (n : Int)] w fun e w' => e = .returned (.slice (some ⟨w.heap.size, 0, none⟩) n n) ∧ w'.rowIs w.heap.size 4 n (fun _ => .bool true) ∧ Below w.heap.size w w' := by
  have k1 := run_make_row' 38 4 (.bool false) 1 Try.underlying38 info4 rfl .i64 .i64 n (by omega) (by omega)
  have r0 := World.rowIs_made w (.bool false) n 4
  have l0 : Below w.heap.size w (w.alloc (.cells (madeCells #[.bool false] n) 4)) := (Below.refl _ _).alloc (Nat.le_refl _) _
  have q1 := copy_trues (w.alloc (.cells (madeCells #[.bool false] n) 4)) 3 w.heap.size 0 n n ⟨b, 0, none⟩ 1 1 1 (by show 1 = min 1 n; omega) (fun j hj => by
    obtain rfl : j = 0 := by omega
    exact (l0.cell (p := ⟨b, 0, none⟩) hbs).trans hb) (fun j hj => by rw [r0.cell (by omega)]; rfl) (fun j hj => r0.frozen _)
  have R0 : Hid (((w.alloc (.cells (madeCells #[.bool false] n) 4)).setCells w.heap.size 0 (List.replicate 1 (.bool true))).rowIs w.heap.size 4 n (fun i => .bool (decide (i < 1))) ∧ Below w.heap.size w ((w.alloc (.cells (madeCells #[.bool false] n) 4)).setCells w.heap.size 0 (List.replicate 1 (.bool true)))) := by
    refine ⟨(rowIs_setCells 1 0 r0).congr (fun i hi => ?_), below_setCells (Nat.le_refl _) _ 0 l0⟩
    by_cases e : i < 1
    · rw [if_pos (by omega), decide_eq_true e]
    · rw [if_neg (by omega), decide_eq_false e]
  clear r0 l0 hb
  go_enter Try.func34, Try.ntmps34
  go_wp2_with (go_at_call 35; refine (mul35 n hn _).mono ?_; rintro e w' ⟨rfl, hw⟩; obtain rfl : w = w' := hw.symm)
  clear q1 k1
  go_loopw [8] (fun rk wr => ∃ k : Nat, 1 ≤ k ∧ k ≤ n ∧ rk = .int .i64 (k : Int) ∧ wr.rowIs w.heap.size 4 n (fun i => .bool (decide (i < k))) ∧ Below w.heap.size w wr) (fun rk _ => n - (intOf rk).toNat)
  case atStart => exact ⟨1, by omega, h1, rfl, R0.out.1, R0.out.2⟩
  case round =>
    clear R0
    obtain ⟨k, hk1, hk, rfl, hr, hl⟩ := hrel
    have R : Hid (wr.rowIs w.heap.size 4 n (fun i => .bool (decide (i < k))) ∧ Below w.heap.size w wr) := ⟨hr, hl⟩
    by_cases hkn : k < n
    · have b1 : (k : Int) < (n : Int) := by omega
      have hr : wr.drew.rowIs w.heap.size 4 n (fun i => .bool (decide (i < k))) := hr.drew
      have hl : Below w.heap.size w wr.drew := below_drw hl 1
      obtain ⟨m, hm⟩ : ∃ m, m = Nat.min k (n - k) := ⟨_, rfl⟩
      have hm1 : 1 ≤ m ∧ m ≤ n - k ∧ m ≤ k := by rw [hm]; show 1 ≤ min k (n - k) ∧ min k (n - k) ≤ n - k ∧ min k (n - k) ≤ k; omega
      have q1 := copy_trues wr.drew 3 w.heap.size k (n - k) (n - k) ⟨w.heap.size, 0, none⟩ k n m hm (fun j hj => by
        rw [add_plain', Nat.zero_add, hr.cell (by omega), decide_eq_true (show j < k by omega)]) (fun j hj => by rw [hr.cell (by omega)]; rfl) (fun j hj => hr.frozen _)
      have NX : Hid ((wr.drew.setCells w.heap.size k (List.replicate m (.bool true))).rowIs w.heap.size 4 n (fun i => .bool (decide (i < k + m))) ∧ Below w.heap.size w (wr.drew.setCells w.heap.size k (List.replicate m (.bool true)))) := by
        refine ⟨(rowIs_setCells m k hr).congr (fun i hi => ?_), below_setCells (Nat.le_refl _) _ k hl⟩
        by_cases e : k ≤ i ∧ i < k + m
        · rw [if_pos e, decide_eq_true (show i < k + m by omega)]
        · rw [if_neg e]; congr 1; exact decide_eq_decide.mpr (by omega)
      clear hr hl hm
      go_wp2
      go_region
      go_wp2
      go_roundw
      case rel => exact ⟨k + m, by omega, by omega, by rw [show ((k + m : Nat) : Int) = (k : Int) + (m : Int) by omega], NX.out.1, NX.out.2⟩
      case measure => simp [intOf]; omega
    · have b1 : ¬ (k : Int) < (n : Int) := by omega
      have R2 : Hid (wr.rowIs w.heap.size 4 n (fun _ => .bool true) ∧ Below w.heap.size w wr) := ⟨hr.congr (fun i hi => by rw [decide_eq_true (show i < k by omega)]), hl⟩
      clear hr hl R
      go_wp2
      go_ret
      exact ⟨rfl, R2.out.1, R2.out.2⟩
set_option maxHeartbeats 1000000 in
theorem repeat_zero (w : World) (b : Nat) :
    Calls Try.prog 34 #[.slice (some ⟨b, 0, none⟩) 1 1, .int .i64 0] w fun e w' => e = .returned (.slice (some ⟨w.heap.size, 0, none⟩) 0 0) ∧ w'.rowIs w.heap.size 4 0 (fun _ => .bool true) ∧ Below w.heap.size w w' := by
  have k1 : ∀ w : World, (Instr.makeSlice 38 (.int .i64 0) (.int .i64 0)).run Try.prog w = .ok (.slice (some ⟨w.heap.size, 0, none⟩) 0 0) (w.alloc (.cells (madeCells #[.bool false] 0) 4)) := run_make_row' 38 4 (.bool false) 1 Try.underlying38 info4 rfl .i64 .i64 0 (by omega) (by omega)
  have q1 := run_copy_none (P := Try.prog) (w.alloc (.cells (madeCells #[.bool false] 0) 4)) 38 38 3 4 (some ⟨w.heap.size, 0, none⟩) (some ⟨b, 0, none⟩) 0 0 1 1 Try.underlying38 size4 rfl
  have R0 : Hid ((w.alloc (.cells (madeCells #[.bool false] 0) 4)).rowIs w.heap.size 4 0 (fun _ => .bool true) ∧ Below w.heap.size w (w.alloc (.cells (madeCells #[.bool false] 0) 4))) :=
    ⟨(World.rowIs_made w (.bool false) 0 4).congr (fun i hi => by omega), (Below.refl _ _).alloc (Nat.le_refl _) _⟩
  have m0 : Hid (∀ w : World, Calls Try.prog 35 #[.int .u64 1, .int .u64 0] w fun e w' => e = .returned (.tuple #[.int .u64 0, .int .u64 0]) ∧ w' = w) := fun w => mul35 0 (by omega) w
  go_enter Try.func34, Try.ntmps34
  go_wp2_with (go_at_call 35; refine (m0.out _).mono ?_; rintro e w' ⟨rfl, hw⟩; obtain rfl : w = w' := hw.symm)
  clear q1 k1
  go_loopw [8] (fun rk wr => rk = .int .i64 0 ∧ wr.rowIs w.heap.size 4 0 (fun _ => .bool true) ∧ Below w.heap.size w wr) (fun _ _ => 0)
  case atStart => exact ⟨rfl, R0.out.1, R0.out.2⟩
  case round =>
    obtain ⟨rfl, hr, hl⟩ := hrel
    have R2 : Hid (wr.rowIs w.heap.size 4 0 (fun _ => .bool true) ∧ Below w.heap.size w wr) := ⟨hr, hl⟩
    clear hr hl R0
    go_wp2
    go_ret
    exact ⟨rfl, R2.out.1, R2.out.2⟩
end Go.Proofs.Qxb6601138a.Hf
