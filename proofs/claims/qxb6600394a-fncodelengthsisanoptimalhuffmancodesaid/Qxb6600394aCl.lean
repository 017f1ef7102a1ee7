import Derived.Test.Qxb6600394aRows
import Derived.WalkKit
import Derived.WalkSpells
import Derived.WalkLawsBesides
import Derived.Lib.SliceRun
import Derived.Deep.LoopGhost
import Derived.Deep.OwnRows
namespace Go.Proofs.Qxb6600394a.Cl
open Go.RowKit

theorem eql25 (w : World) (a : Option Addr) (n c n' c' : Nat) : (binOp .eql 25 (.slice a n c) (.slice none n' c')).run Try.prog w = .ok (.bool a.isNone) w := Lib.run_eql_slice_nil w _ _ a n c n' c' Try.underlying25
theorem eql22 (w : World) (a : Option Addr) (n c n' c' : Nat) : (binOp .eql 22 (.slice a n c) (.slice none n' c')).run Try.prog w = .ok (.bool a.isNone) w := Lib.run_eql_slice_nil w _ _ a n c n' c' Try.underlying22
theorem info5 : (Try.prog.info? 5).map (fun i => (i.zero, i.size, i.bytes)) = some (some (.int .u8 0), 1, 1) := by kernel_rfl
theorem info3 : (Try.prog.info? 3).map (fun i => (i.zero, i.size, i.bytes)) = some (some (.int .i64 0), 1, 8) := by kernel_rfl
theorem info2 : (Try.prog.info? 2).map (fun i => (i.zero, i.size, i.bytes)) = some (some (.int .i64 0), 1, 8) := by kernel_rfl

/-- A row's content goes on over what is below B. -/
theorem rowIs_below {w w' : World} {B b : Nat} {t : TypeId} {n : Nat} {f : Nat → Value} (h : w.rowIs b t n f) (hb : Below B w w') (hB : b < B) : w'.rowIs b t n f := h.of_block (hb.block b hB)

theorem add_plain' (b o i : Nat) : (⟨b, o, none⟩ : Addr).add i = ⟨b, o + i, none⟩ := by
  by_cases h : i = 0
  · subst h; simp [Addr.add]
  · simp [Addr.add, h]
theorem cell_lt {w : World} {b i : Nat} {v : Value} (h : w.cell? ⟨b, i, none⟩ = some v) : b < w.heap.size := by
  rcases Nat.lt_or_ge b w.heap.size with h' | h'
  · exact h'
  · simp [World.cell?, Array.getElem?_eq_none h'] at h
/-- Where there is an element, the slice's address is a plain one. -/
theorem cell_add {w : World} {x : Addr} {n : Nat} {g : Nat → Value} (hc : ∀ i, i < n → w.cell? (x.add i) = some (g i)) (hn : 0 < n) : ∃ b o, x = ⟨b, o, none⟩ ∧ b < w.heap.size ∧ ∀ i, i < n → w.cell? ⟨b, o + i, none⟩ = some (g i) := by
  obtain ⟨b, o, s⟩ := x
  have h0 := hc 0 hn
  have hs : s = none := by simpa [Addr.add] using World.cell?_spot h0
  subst hs
  have h1 : ∀ i, i < n → w.cell? ⟨b, o + i, none⟩ = some (g i) := fun i hi => by rw [← add_plain']; exact hc i hi
  exact ⟨b, o, rfl, cell_lt (h1 0 hn), h1⟩

theorem cloneB_nil (w : World) : Calls Try.prog 23 #[.slice none 0 0] w fun e w' => e = .returned (.slice none 0 0) ∧ w' = w := by
  have q := eql25
  go_enter Try.func23, Try.ntmps23
  go_wp2
  go_ret
  exact ⟨rfl, rfl⟩

set_option maxHeartbeats 400000 in
theorem cloneB_any (x : Addr) (n c : Nat) (f : Nat → Int) (w : World) (hn : n ≤ 4194304) (hc : ∀ i, i < n → w.cell? (x.add i) = some (.int .u8 (f i))) :
    Calls Try.prog 23 #[.slice (some x) n c] w fun e w' => e = .returned (.slice (some ⟨w.heap.size, 0, none⟩) n n) ∧ w'.rowIs w.heap.size 5 n (fun i => .int .u8 (f i)) ∧ Below w.heap.size w w' ∧ w'.heap.size = w.heap.size + 1 := by
  have HC : Hid (∀ i, i < n → w.cell? (x.add i) = some (.int .u8 (f i))) := hc
  clear hc
  have q := eql25
  have hmk := run_make_row' 25 5 (.int .u8 0) 1 Try.underlying25 info5 rfl .i64 .i64 n (by omega) (by omega)
  go_enter Try.func23, Try.ntmps23
  go_wp2
  clear q hmk
  go_loopw [4] (fun i wr => ∃ k : Nat, k ≤ n ∧ i = .int .i64 k ∧ wr.rowIs w.heap.size 5 n (fun j => if j < k then .int .u8 (f j) else .int .u8 0) ∧ Below w.heap.size w wr ∧ wr.heap.size = w.heap.size + 1) (fun i _ => n - (intOf i).toNat)
  case atStart => exact ⟨0, by omega, rfl, (World.rowIs_made w (.int .u8 0) n 5).congr (fun i _ => by simp), (Below.refl _ _).alloc (Nat.le_refl _) _, by simp⟩
  case round =>
    obtain ⟨k, hk, rfl, hrow, hbel, hsz⟩ := hrel
    have HR : Hid (wr.rowIs w.heap.size 5 n (fun j => if j < k then .int .u8 (f j) else .int .u8 0) ∧ Below w.heap.size w wr) := ⟨hrow, hbel⟩
    have HZ : Hid (wr.heap.size = w.heap.size + 1) := hsz
    clear hrow hbel hsz
    by_cases hlt : k < n
    · obtain ⟨b, o, rfl, hbs, hcells⟩ := cell_add HC.out (by omega)
      have hcell := hcells k hlt
      clear hcells
      have hcw : wr.cell? ⟨b, o + k, none⟩ = some (.int .u8 (f k)) := (HR.out.2.cell (p := ⟨b, o + k, none⟩) hbs).trans hcell
      have hold := HR.out.1.cell hlt
      have hfr := HR.out.1.frozen k
      simp only [Nat.lt_irrefl, if_false] at hold
      clear hcell
      go_wp2
      go_roundw
      case rel =>
        refine ⟨k + 1, by omega, by go_num, ?_, HR.out.2.setCell (by simp) _, by simp [World.setCell]; exact HZ.out⟩
        refine (HR.out.1.set k _).congr ?_
        intro i hi
        by_cases e : i = k
        · subst e; simp
        · by_cases e2 : i < k
          · simp [e, e2, Nat.lt_succ_of_lt e2]
          · have : ¬ i < k + 1 := by omega
            simp [e, e2, this]
      case measure => simp [intOf]; omega
    · go_wp2
      go_ret
      exact ⟨rfl, HR.out.1.congr (fun i hi => by simp [show i < k by omega]), HR.out.2, HZ.out⟩
theorem cloneI_nil (w : World) : Calls Try.prog 12 #[.slice none 0 0] w fun e w' => e = .returned (.slice none 0 0) ∧ w' = w := by
  have q := eql22
  go_enter Try.func12, Try.ntmps12
  go_wp2
  go_ret
  exact ⟨rfl, rfl⟩

set_option maxHeartbeats 400000 in
theorem cloneI_any (x : Addr) (n c : Nat) (f : Nat → Int) (w : World) (hn : n ≤ 4194304) (hc : ∀ i, i < n → w.cell? (x.add i) = some (.int .i64 (f i))) :
    Calls Try.prog 12 #[.slice (some x) n c] w fun e w' => e = .returned (.slice (some ⟨w.heap.size, 0, none⟩) n n) ∧ w'.rowIs w.heap.size 3 n (fun i => .int .i64 (f i)) ∧ Below w.heap.size w w' ∧ w'.heap.size = w.heap.size + 1 := by
  have HC : Hid (∀ i, i < n → w.cell? (x.add i) = some (.int .i64 (f i))) := hc
  clear hc
  have q := eql22
  have hmk := run_make_row' 22 3 (.int .i64 0) 8 Try.underlying22 info3 rfl .i64 .i64 n (by omega) (by omega)
  go_enter Try.func12, Try.ntmps12
  go_wp2
  clear q hmk
  go_loopw [4] (fun i wr => ∃ k : Nat, k ≤ n ∧ i = .int .i64 k ∧ wr.rowIs w.heap.size 3 n (fun j => if j < k then .int .i64 (f j) else .int .i64 0) ∧ Below w.heap.size w wr ∧ wr.heap.size = w.heap.size + 1) (fun i _ => n - (intOf i).toNat)
  case atStart => exact ⟨0, by omega, rfl, (World.rowIs_made w (.int .i64 0) n 3).congr (fun i _ => by simp), (Below.refl _ _).alloc (Nat.le_refl _) _, by simp⟩
  case round =>
    obtain ⟨k, hk, rfl, hrow, hbel, hsz⟩ := hrel
    have HR : Hid (wr.rowIs w.heap.size 3 n (fun j => if j < k then .int .i64 (f j) else .int .i64 0) ∧ Below w.heap.size w wr) := ⟨hrow, hbel⟩
    have HZ : Hid (wr.heap.size = w.heap.size + 1) := hsz
    clear hrow hbel hsz
    by_cases hlt : k < n
    · obtain ⟨b, o, rfl, hbs, hcells⟩ := cell_add HC.out (by omega)
      have hcell := hcells k hlt
      clear hcells
      have hcw : wr.cell? ⟨b, o + k, none⟩ = some (.int .i64 (f k)) := (HR.out.2.cell (p := ⟨b, o + k, none⟩) hbs).trans hcell
      have hold := HR.out.1.cell hlt
      have hfr := HR.out.1.frozen k
      simp only [Nat.lt_irrefl, if_false] at hold
      clear hcell
      go_wp2
      go_roundw
      case rel =>
        refine ⟨k + 1, by omega, by go_num, ?_, HR.out.2.setCell (by simp) _, by simp [World.setCell]; exact HZ.out⟩
        refine (HR.out.1.set k _).congr ?_
        intro i hi
        by_cases e : i = k
        · subst e; simp
        · by_cases e2 : i < k
          · simp [e, e2, Nat.lt_succ_of_lt e2]
          · have : ¬ i < k + 1 := by omega
            simp [e, e2, this]
      case measure => simp [intOf]; omega
    · go_wp2
      go_ret
      exact ⟨rfl, HR.out.1.congr (fun i hi => by simp [show i < k by omega]), HR.out.2, HZ.out⟩
end Go.Proofs.Qxb6600394a.Cl
