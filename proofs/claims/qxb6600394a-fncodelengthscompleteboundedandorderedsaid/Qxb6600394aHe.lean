import Derived.Test.Qxb6600394aHb
import Derived.Test.Qxb6600394aR6
import Derived.Deep.QuietTactic
import Derived.BigQuiet
namespace Go.Proofs.Qxb6600394a.Hf
open Go.RowKit
set_option linter.unusedVariables false

theorem sl48 (n : Nat) (hn : n ≤ 255) (w : World) (a : Addr) : (Instr.sliceAt 48 (.pointer (some a)) none (some (.int .i64 (n : Int))) none).run Try.prog w = .ok (.slice (some a) n 255) w := by
  have e1 : Try.prog.arrayLen 48 = 255 := by kernel_rfl
  have e2 : (sizeOf (Try.prog.elem 48)).run Try.prog w = .ok 1 w := by kernel_rfl
  have ht : Try.prog.underlying 48 = some (.array (Try.prog.arrayLen 48) (Try.prog.elem 48)) := by kernel_rfl
  rw [run_sliceAt_array_h w 48 a ht .i64 n (by omega) (by rw [e1]; omega), e2, e1]
  simp [slicedAt, Addr.add, Result.andThen]
theorem sl49 (n : Nat) (h0 : 2 ≤ n) (hn : n ≤ 255) (w : World) (a : Addr) : (Instr.sliceAt 49 (.pointer (some a)) none (some (.int .i64 (2 * (n : Int) - 1))) none).run Try.prog w = .ok (.slice (some a) (2 * n - 1) 509) w := by
  have e1 : Try.prog.arrayLen 49 = 509 := by kernel_rfl
  have e2 : (sizeOf (Try.prog.elem 49)).run Try.prog w = .ok 1 w := by kernel_rfl
  have ht : Try.prog.underlying 49 = some (.array (Try.prog.arrayLen 49) (Try.prog.elem 49)) := by kernel_rfl
  rw [run_sliceAt_array_h w 49 a ht .i64 (2 * (n : Int) - 1) (by omega) (by rw [e1]; omega), e2, e1]
  have e3 : (2 * (n : Int) - 1).toNat = 2 * n - 1 := by omega
  simp [slicedAt, Addr.add, Result.andThen, e3]

/-- The memory of a call of codeLengths: the five arrays, the counts, the lengths, the captured n; below the lengths' block nothing turns. -/
structure Env (w wr : World) (B Bc Bl n : Nat) (c : Nat → Int) (o wt pa de pe len : Nat → Int) : Prop where
  geo : Bc < Bl ∧ Bl < B ∧ B < w.heap.size
  hb : HB wr B o wt pa de pe
  cc : wr.rowIs Bc 3 n (fun i => .int .i64 (c i))
  ll : wr.rowIs Bl 5 n (fun i => .int .u8 (len i))
  bel : Below Bl w wr
  nn : wr.rowIs w.heap.size 3 1 (fun _ => .int .i64 (n : Int))

section
variable {w wr w' : World} {B Bc Bl n : Nat} {c : Nat → Int} {o wt pa de pe len : Nat → Int}
theorem Env.drew (h : Env w wr B Bc Bl n c o wt pa de pe len) : Env w wr.drew B Bc Bl n c o wt pa de pe len := ⟨h.geo, h.hb, h.cc, h.ll, h.bel.drew, h.nn⟩
theorem Env.drewN (h : Env w wr B Bc Bl n c o wt pa de pe len) (k : Nat) : Env w (wr.drewN k) B Bc Bl n c o wt pa de pe len := by
  exact ⟨h.geo, h.hb, h.cc, h.ll, ⟨h.bel.os, h.bel.tape, h.bel.output, h.bel.size, h.bel.block⟩, h.nn⟩
theorem Env.alloc (h : Env w wr B Bc Bl n c o wt pa de pe len) (x : Obj) : Env w (wr.alloc x) B Bc Bl n c o wt pa de pe len :=
  ⟨h.geo, h.hb.alloc x, h.cc.alloc x, h.ll.alloc x, h.bel.alloc (by have := h.ll.lt; omega) x, h.nn.alloc x⟩
theorem Env.other (h : Env w wr B Bc Bl n c o wt pa de pe len) {a : Addr} (ha : w.heap.size < a.block) (v : Value) : Env w (wr.setCell a v) B Bc Bl n c o wt pa de pe len := by
  have g := h.geo
  exact ⟨g, h.hb.other (by omega) v, h.cc.setOther (by omega) v, h.ll.setOther (by omega) v, h.bel.setCell (by omega) v, h.nn.setOther (by omega) v⟩
theorem Env.inB (h : Env w wr B Bc Bl n c o wt pa de pe len) {i : Nat} {v : Value} {o' wt' pa' de' pe' : Nat → Int} (hb : HB (wr.setCell ⟨B, i, none⟩ v) B o' wt' pa' de' pe') : Env w (wr.setCell ⟨B, i, none⟩ v) B Bc Bl n c o' wt' pa' de' pe' len := by
  have g := h.geo
  exact ⟨g, hb, h.cc.setOther (show Bc ≠ B by omega) v, h.ll.setOther (show Bl ≠ B by omega) v, h.bel.setCell (show Bl ≤ B by omega) v, h.nn.setOther (show w.heap.size ≠ B by omega) v⟩
theorem Env.setO (h : Env w wr B Bc Bl n c o wt pa de pe len) {i : Nat} (hi : i < 255) (v : Int) : Env w (wr.setCell ⟨B, i, none⟩ (.int .i64 v)) B Bc Bl n c (upd o i v) wt pa de pe len := h.inB (h.hb.setO hi v)
theorem Env.setWt (h : Env w wr B Bc Bl n c o wt pa de pe len) {i : Nat} (hi : i < 509) (v : Int) : Env w (wr.setCell ⟨B, 255 + i, none⟩ (.int .i64 v)) B Bc Bl n c o (upd wt i v) pa de pe len := h.inB (h.hb.setWt hi v)
theorem Env.setPa (h : Env w wr B Bc Bl n c o wt pa de pe len) {i : Nat} (hi : i < 509) (v : Int) : Env w (wr.setCell ⟨B, 764 + i, none⟩ (.int .i64 v)) B Bc Bl n c o wt (upd pa i v) de pe len := h.inB (h.hb.setPa hi v)
theorem Env.setDe (h : Env w wr B Bc Bl n c o wt pa de pe len) {i : Nat} (hi : i < 509) (v : Int) : Env w (wr.setCell ⟨B, 1273 + i, none⟩ (.int .i64 v)) B Bc Bl n c o wt pa (upd de i v) pe len := h.inB (h.hb.setDe hi v)
theorem Env.setPe (h : Env w wr B Bc Bl n c o wt pa de pe len) {i : Nat} (hi : i < 255) (v : Int) : Env w (wr.setCell ⟨B, 1782 + i, none⟩ (.int .i64 v)) B Bc Bl n c o wt pa de (upd pe i v) len := h.inB (h.hb.setPe hi v)
theorem Env.setL (h : Env w wr B Bc Bl n c o wt pa de pe len) {i : Nat} (v : Int) : Env w (wr.setCell ⟨Bl, i, none⟩ (.int .u8 v)) B Bc Bl n c o wt pa de pe (upd len i v) := by
  have g := h.geo
  refine ⟨g, h.hb.other (show B ≠ Bl by omega) _, h.cc.setOther (show Bc ≠ Bl by omega) _, (h.ll.set i _).congr (fun j hj => ?_), h.bel.setCell (Nat.le_refl _) _, h.nn.setOther (show w.heap.size ≠ Bl by omega) _⟩
  by_cases e : j = i
  · subst e; rw [if_pos rfl, upd_same]
  · rw [if_neg e, upd_ne e]
theorem Env.congrF (h : Env w wr B Bc Bl n c o wt pa de pe len) {o' wt' pa' de' pe' : Nat → Int} (e1 : ∀ i, o i = o' i) (e2 : ∀ i, wt i = wt' i) (e3 : ∀ i, pa i = pa' i) (e4 : ∀ i, de i = de' i) (e5 : ∀ i, pe i = pe' i) : Env w wr B Bc Bl n c o' wt' pa' de' pe' len := by
  obtain rfl : o = o' := funext e1
  obtain rfl : wt = wt' := funext e2
  obtain rfl : pa = pa' := funext e3
  obtain rfl : de = de' := funext e4
  obtain rfl : pe = pe' := funext e5
  exact h
end

/-- Numbers as cells. -/
def ci (f : Nat → Nat) : Nat → Int := fun i => (f i : Int)
theorem ci_upd (f : Nat → Nat) (i v : Nat) : upd (ci f) i (v : Int) = ci (upd f i v) := by
  funext j
  unfold ci
  by_cases e : j = i
  · subst e; rw [upd_same, upd_same]
  · rw [upd_ne e, upd_ne e]
abbrev z0 : Nat → Int := fun _ => 0

end Go.Proofs.Qxb6600394a.Hf
