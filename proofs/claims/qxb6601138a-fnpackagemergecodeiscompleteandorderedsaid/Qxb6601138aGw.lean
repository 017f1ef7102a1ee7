import Derived.Test.Qxb6601138aRows
import Derived.WalkKit
import Derived.WalkSpells
import Derived.WalkLawsBesides
import Derived.Lib.SliceRun
import Derived.Lib.AppendZeros
import Derived.Deep.LoopGhost
import Derived.Deep.OwnRows
import Derived.Deep.QuietTactic
import Derived.BigQuiet
import Derived.Deep.DeepCutAuto
namespace Go.Proofs.Qxb6601138a.Gw
open Go.RowKit
set_option linter.unusedVariables false

theorem info28 : (Try.prog.info? 28).map (fun i => (i.zero, i.size, i.bytes)) = some (some (.int .u64 0), 1, 8) := by kernel_rfl
theorem info21 : (Try.prog.info? 21).map (fun i => (i.zero, i.size, i.bytes)) = some (some (.int .i32 0), 1, 4) := by kernel_rfl
theorem info5 : (Try.prog.info? 5).map (fun i => (i.zero, i.size, i.bytes)) = some (some (.int .u8 0), 1, 1) := by kernel_rfl
theorem info3 : (Try.prog.info? 3).map (fun i => (i.zero, i.size, i.bytes)) = some (some (.int .i64 0), 1, 8) := by kernel_rfl
theorem info4 : (Try.prog.info? 4).map (fun i => (i.zero, i.size, i.bytes)) = some (some (.bool false), 1, 1) := by kernel_rfl

/-- The row that such an append lays. -/
theorem zero_row (w : World) (z : Value) (e : TypeId) (n c : Nat) (h : n ≤ c) : (w.drew.alloc (.cells (Builtin.zeroCells #[z] n ++ Builtin.zeroCells #[z] (c - n)) e)).rowIs w.heap.size e c (fun _ => z) := by
  have hz : ∀ m, Builtin.zeroCells #[z] m = (List.replicate m z).toArray := by
    intro m
    apply Array.ext'
    apply List.ext_getElem?
    intro j
    by_cases hj : j < m
    · simp [Builtin.zeroCells, hj, Nat.mod_one]
    · simp [Builtin.zeroCells, hj]
  have e1 : Builtin.zeroCells #[z] n ++ Builtin.zeroCells #[z] (c - n) = (List.replicate c z).toArray := by
    rw [hz, hz, List.append_toArray, List.replicate_append_replicate, show n + (c - n) = c by omega]
  rw [e1]
  have := World.rowIs_alloc w.drew (List.replicate c z).toArray e (fun _ => z) (fun i hi => by
    rw [List.getElem?_toArray, List.getElem?_replicate, if_pos (by simpa using hi)])
  simpa using this

set_option maxHeartbeats 400000 in
theorem grow64_any (w : World) (n : Nat) (h1 : 1 ≤ n) (h2 : n ≤ 1048576) :
    Calls Try.prog 30 #[.slice none 0 0, .int .i64 (n : Int)] w fun e w' => ∃ cap, n ≤ cap ∧ cap ≤ maxLen ∧ e = .returned (.slice (some ⟨w.heap.size, 0, none⟩) 0 cap) ∧ w'.rowIs w.heap.size 28 cap (fun _ => .int .u64 0) ∧ Below w.heap.size w w' := by
  obtain ⟨i, hi, hz0, hz1, hz2⟩ := info_parts info28
  have hap : ∀ w : World, ∀ ty, (Builtin.append_ #[23, 3] ty #[.slice none 0 0, .int .i64 (n : Int)]).run Try.prog w = .ok (.slice (some ⟨w.heap.size, 0, none⟩) n (grownCap w n 0 28)) (w.drew.alloc (.cells (Builtin.zeroCells #[.int .u64 0] n ++ Builtin.zeroCells #[.int .u64 0] (grownCap w n 0 28 - n)) 28)) := fun w ty => by
    have := Lib.run_append_nil_zeros (P := Try.prog) w 23 3 ty 28 i (.int .u64 0) .i64 .i64 Try.underlying23 Try.underlying3 hi hz0 n (by omega) (by omega) (by omega) (by rw [hz2]; omega)
    simpa [Value.cells] using this
  have hcap := grownCap_ge w n 0 28
  have hcm := grownCap_le_maxLen w n 0 28 (by unfold maxLen; omega)
  have HR : Hid ((w.drew.alloc (.cells (Builtin.zeroCells #[.int .u64 0] n ++ Builtin.zeroCells #[.int .u64 0] (grownCap w n 0 28 - n)) 28)).rowIs w.heap.size 28 (grownCap w n 0 28) (fun _ => .int .u64 0) ∧ Below w.heap.size w (w.drew.alloc (.cells (Builtin.zeroCells #[.int .u64 0] n ++ Builtin.zeroCells #[.int .u64 0] (grownCap w n 0 28 - n)) 28))) :=
    ⟨zero_row w (.int .u64 0) 28 n _ hcap, (Below.refl _ _).drew.alloc (by simp) _⟩
  have HA : Hid (∀ ty, (Builtin.append_ #[23, 3] ty #[.slice none 0 0, .int .i64 (n : Int)]).run Try.prog w = .ok (.slice (some ⟨w.heap.size, 0, none⟩) n (grownCap w n 0 28)) (w.drew.alloc (.cells (Builtin.zeroCells #[.int .u64 0] n ++ Builtin.zeroCells #[.int .u64 0] (grownCap w n 0 28 - n)) 28))) := hap w
  clear hap hi hz0 hz1 hz2
  generalize hg : grownCap w n 0 28 = g at hcap hcm HR HA
  clear hg
  generalize hW : (w.drew.alloc (.cells (Builtin.zeroCells #[.int .u64 0] n ++ Builtin.zeroCells #[.int .u64 0] (g - n)) 28)) = W at HR HA
  clear hW
  unfold maxLen at hcm
  have b1 : ¬ (n : Int) < 0 := by omega
  have b2 : (0 : Int) < (n : Int) := by omega
  go_enter Try.func30, Try.ntmps30
  go_wp2_with (at_builtin; refine Lib.wpList_append_run _ rfl (.tmp 20) (.tmp 21) 23 3 rfl _ _ rfl rfl _ _ (HA.out _) ?_)
  go_ret
  exact ⟨g, hcap, by unfold maxLen; omega, rfl, HR.out.1, HR.out.2⟩

set_option maxHeartbeats 400000 in
theorem grow32_any (w : World) (n : Nat) (h1 : 1 ≤ n) (h2 : n ≤ 1048576) :
    Calls Try.prog 31 #[.slice none 0 0, .int .i64 (n : Int)] w fun e w' => ∃ cap, n ≤ cap ∧ cap ≤ maxLen ∧ e = .returned (.slice (some ⟨w.heap.size, 0, none⟩) 0 cap) ∧ w'.rowIs w.heap.size 21 cap (fun _ => .int .i32 0) ∧ Below w.heap.size w w' := by
  obtain ⟨i, hi, hz0, hz1, hz2⟩ := info_parts info21
  have hap : ∀ w : World, ∀ ty, (Builtin.append_ #[42, 3] ty #[.slice none 0 0, .int .i64 (n : Int)]).run Try.prog w = .ok (.slice (some ⟨w.heap.size, 0, none⟩) n (grownCap w n 0 21)) (w.drew.alloc (.cells (Builtin.zeroCells #[.int .i32 0] n ++ Builtin.zeroCells #[.int .i32 0] (grownCap w n 0 21 - n)) 21)) := fun w ty => by
    have := Lib.run_append_nil_zeros (P := Try.prog) w 42 3 ty 21 i (.int .i32 0) .i64 .i64 Try.underlying42 Try.underlying3 hi hz0 n (by omega) (by omega) (by omega) (by rw [hz2]; omega)
    simpa [Value.cells] using this
  have hcap := grownCap_ge w n 0 21
  have hcm := grownCap_le_maxLen w n 0 21 (by unfold maxLen; omega)
  have HR : Hid ((w.drew.alloc (.cells (Builtin.zeroCells #[.int .i32 0] n ++ Builtin.zeroCells #[.int .i32 0] (grownCap w n 0 21 - n)) 21)).rowIs w.heap.size 21 (grownCap w n 0 21) (fun _ => .int .i32 0) ∧ Below w.heap.size w (w.drew.alloc (.cells (Builtin.zeroCells #[.int .i32 0] n ++ Builtin.zeroCells #[.int .i32 0] (grownCap w n 0 21 - n)) 21))) :=
    ⟨zero_row w (.int .i32 0) 21 n _ hcap, (Below.refl _ _).drew.alloc (by simp) _⟩
  have HA : Hid (∀ ty, (Builtin.append_ #[42, 3] ty #[.slice none 0 0, .int .i64 (n : Int)]).run Try.prog w = .ok (.slice (some ⟨w.heap.size, 0, none⟩) n (grownCap w n 0 21)) (w.drew.alloc (.cells (Builtin.zeroCells #[.int .i32 0] n ++ Builtin.zeroCells #[.int .i32 0] (grownCap w n 0 21 - n)) 21))) := hap w
  clear hap hi hz0 hz1 hz2
  generalize hg : grownCap w n 0 21 = g at hcap hcm HR HA
  clear hg
  generalize hW : (w.drew.alloc (.cells (Builtin.zeroCells #[.int .i32 0] n ++ Builtin.zeroCells #[.int .i32 0] (g - n)) 21)) = W at HR HA
  clear hW
  unfold maxLen at hcm
  have b1 : ¬ (n : Int) < 0 := by omega
  have b2 : (0 : Int) < (n : Int) := by omega
  go_enter Try.func31, Try.ntmps31
  go_wp2_with (at_builtin; refine Lib.wpList_append_run _ rfl (.tmp 20) (.tmp 21) 42 3 rfl _ _ rfl rfl _ _ (HA.out _) ?_)
  go_ret
  exact ⟨g, hcap, by unfold maxLen; omega, rfl, HR.out.1, HR.out.2⟩
end Go.Proofs.Qxb6601138a.Gw
