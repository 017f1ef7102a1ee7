import Derived.Test.Qxb6600394aHe
import Derived.Deep.DeepCutAuto
import Derived.Lib.SliceRun
namespace Go.Proofs.Qxb6600394a.Hf
open Go.RowKit
set_option linter.unusedVariables false

section
variable (w : World) (m l n r : Nat) (Lf N0 In V B len cap : Nat) (x y : Int)

set_option maxHeartbeats 400000 in
theorem pickLeafAll (hm : m ≤ 509) (hl : l < n) (hn : n ≤ 255) (hr : r = m)
    (f1 : w.cell? ⟨Lf, 0, none⟩ = some (.int .i64 (l : Int))) (f2 : w.cell? ⟨N0, 0, none⟩ = some (.int .i64 (n : Int))) (f3 : w.cell? ⟨In, 0, none⟩ = some (.int .i64 (r : Int)))
    (g1 : w.frozen? ⟨Lf, 0, none⟩ = false) :
    Calls Try.prog 42 #[.int .i64 (m : Int), .pointer (some ⟨Lf, 0, none⟩), .pointer (some ⟨N0, 0, none⟩), .pointer (some ⟨In, 0, none⟩), .pointer (some ⟨V, 0, none⟩)] w fun e w' => e = .returned (.int .i64 (l : Int)) ∧ ∃ k, (w.drewN k).setCell ⟨Lf, 0, none⟩ (.int .i64 ((l : Int) + 1)) = w' := by
  subst hr
  have t1 : (l : Int) < (n : Int) := by omega
  have t2 : ((r : Int) == (r : Int)) = true := by simp
  go_enter Try.func42, Try.ntmps42
  go_wp2
  go_quiet (fail)
  go_wp2
  go_ret
  exact ⟨by simp, _, rfl⟩

set_option maxHeartbeats 400000 in
theorem pickLeafLe (hm : m ≤ 509) (hl : l < n) (hn : n ≤ 255) (hr : r < m) (hlen : m ≤ len) (hxy : x ≤ y)
    (f1 : w.cell? ⟨Lf, 0, none⟩ = some (.int .i64 (l : Int))) (f2 : w.cell? ⟨N0, 0, none⟩ = some (.int .i64 (n : Int))) (f3 : w.cell? ⟨In, 0, none⟩ = some (.int .i64 (r : Int)))
    (f4 : w.cell? ⟨V, 0, none⟩ = some (.slice (some ⟨B, 255, none⟩) len cap)) (f5 : w.cell? ⟨B, 255 + l, none⟩ = some (.int .i64 x)) (f6 : w.cell? ⟨B, 255 + r, none⟩ = some (.int .i64 y)) (hnl : n ≤ len)
    (g1 : w.frozen? ⟨Lf, 0, none⟩ = false) :
    Calls Try.prog 42 #[.int .i64 (m : Int), .pointer (some ⟨Lf, 0, none⟩), .pointer (some ⟨N0, 0, none⟩), .pointer (some ⟨In, 0, none⟩), .pointer (some ⟨V, 0, none⟩)] w fun e w' => e = .returned (.int .i64 (l : Int)) ∧ ∃ k, (w.drewN k).setCell ⟨Lf, 0, none⟩ (.int .i64 ((l : Int) + 1)) = w' := by
  have t1 : (l : Int) < (n : Int) := by omega
  have t2 : ((r : Int) == (m : Int)) = false := by rw [beq_eq_false_iff_ne]; omega
  have t3 : (l : Int) < (len : Int) := by omega
  have t4 : (r : Int) < (len : Int) := by omega
  go_enter Try.func42, Try.ntmps42
  go_wp2
  go_quiet (fail)
  go_wp2
  go_ret
  exact ⟨by simp, _, rfl⟩

set_option maxHeartbeats 400000 in
theorem pickInnerAll (hm : m ≤ 509) (hl : l = n) (hn : n ≤ 255) (hr : r < m)
    (f1 : w.cell? ⟨Lf, 0, none⟩ = some (.int .i64 (l : Int))) (f2 : w.cell? ⟨N0, 0, none⟩ = some (.int .i64 (n : Int))) (f3 : w.cell? ⟨In, 0, none⟩ = some (.int .i64 (r : Int)))
    (g1 : w.frozen? ⟨In, 0, none⟩ = false) :
    Calls Try.prog 42 #[.int .i64 (m : Int), .pointer (some ⟨Lf, 0, none⟩), .pointer (some ⟨N0, 0, none⟩), .pointer (some ⟨In, 0, none⟩), .pointer (some ⟨V, 0, none⟩)] w fun e w' => e = .returned (.int .i64 (r : Int)) ∧ ∃ k, (w.drewN k).setCell ⟨In, 0, none⟩ (.int .i64 ((r : Int) + 1)) = w' := by
  subst hl
  have t1 : decide ((l : Int) < (l : Int)) = false := by simp
  go_enter Try.func42, Try.ntmps42
  go_wp2
  go_quiet (fail)
  go_wp2
  go_ret
  exact ⟨by simp, _, rfl⟩

set_option maxHeartbeats 400000 in
theorem pickInnerLt (hm : m ≤ 509) (hl : l < n) (hn : n ≤ 255) (hr : r < m) (hlen : m ≤ len) (hxy : y < x)
    (f1 : w.cell? ⟨Lf, 0, none⟩ = some (.int .i64 (l : Int))) (f2 : w.cell? ⟨N0, 0, none⟩ = some (.int .i64 (n : Int))) (f3 : w.cell? ⟨In, 0, none⟩ = some (.int .i64 (r : Int)))
    (f4 : w.cell? ⟨V, 0, none⟩ = some (.slice (some ⟨B, 255, none⟩) len cap)) (f5 : w.cell? ⟨B, 255 + l, none⟩ = some (.int .i64 x)) (f6 : w.cell? ⟨B, 255 + r, none⟩ = some (.int .i64 y)) (hnl : n ≤ len)
    (g1 : w.frozen? ⟨In, 0, none⟩ = false) :
    Calls Try.prog 42 #[.int .i64 (m : Int), .pointer (some ⟨Lf, 0, none⟩), .pointer (some ⟨N0, 0, none⟩), .pointer (some ⟨In, 0, none⟩), .pointer (some ⟨V, 0, none⟩)] w fun e w' => e = .returned (.int .i64 (r : Int)) ∧ ∃ k, (w.drewN k).setCell ⟨In, 0, none⟩ (.int .i64 ((r : Int) + 1)) = w' := by
  have t1 : (l : Int) < (n : Int) := by omega
  have t2 : ((r : Int) == (m : Int)) = false := by rw [beq_eq_false_iff_ne]; omega
  have t3 : (l : Int) < (len : Int) := by omega
  have t4 : (r : Int) < (len : Int) := by omega
  have t5 : ¬ x ≤ y := by omega
  go_enter Try.func42, Try.ntmps42
  go_wp2
  go_quiet (fail)
  go_wp2
  go_ret
  exact ⟨by simp, _, rfl⟩
end

theorem zero3 (w : World) : (zeroValue 3).run Try.prog w = .ok (.int .i64 0) w := by kernel_rfl
theorem upd_z0 (i : Nat) : upd z0 i 0 = z0 := by
  funext j
  by_cases e : j = i
  · subst e; rw [upd_same]
  · rw [upd_ne e]
theorem Env.clearPe {w : World} {B Bc Bl n : Nat} {c : Nat → Int} {o wt pa de len : Nat → Int} : ∀ (k off : Nat) (wr : World), off + k ≤ 255 → Env w wr B Bc Bl n c o wt pa de z0 len → Env w (wr.setCells B (1782 + off) (List.replicate k (.int .i64 0))) B Bc Bl n c o wt pa de z0 len := by
  intro k
  induction k with
  | zero => intro off wr _ h; exact h
  | succ k ih =>
    intro off wr hk h
    have h1 := h.setPe (i := off) (by omega) 0
    rw [upd_z0] at h1
    exact ih (off + 1) _ (by omega) h1
theorem clear22 {w : World} {B Bc Bl n : Nat} {c : Nat → Int} {o wt pa de len : Nat → Int} {wr : World} (hn : 2 ≤ n) (hn2 : n ≤ 255) (h : Env w wr B Bc Bl n c o wt pa de z0 len) (ty : TypeId) :
    (Builtin.clear_ #[22] ty #[.slice (some ⟨B, 1782, none⟩) n 255]).run Try.prog wr = .ok (.tuple #[]) (wr.setCells B 1782 (List.replicate n (.int .i64 0))) :=
  Lib.run_clear_slice wr 22 3 ty (.int .i64 0) Try.underlying22 zero3 rfl rfl B 1782 n 255 (by omega) (fun j hj => by rw [h.hb.rPe (by omega)]; rfl) (fun j _ => h.hb.fz _)

/-- A new variable. -/
theorem row_one (w : World) (v : Value) (t : TypeId) : (w.alloc (.cells #[v] t)).rowIs w.heap.size t 1 (fun _ => v) := World.rowIs_alloc w #[v] t _ (fun i hi => by
  have : i = 0 := by simp at hi; omega
  subst this; rfl)

/-- The memory while nodes are made: besides, the captured variables weight, leaf and inner. -/
structure Env4 (w wr : World) (B Bc Bl n : Nat) (c : Nat → Int) (o wt pa de pe len : Nat → Int) (V Lf In l r : Nat) : Prop where
  env : Env w wr B Bc Bl n c o wt pa de pe len
  vv : wr.rowIs V 22 1 (fun _ => .slice (some ⟨B, 255, none⟩) (2 * n - 1) 509)
  lf : wr.rowIs Lf 3 1 (fun _ => .int .i64 (l : Int))
  inn : wr.rowIs In 3 1 (fun _ => .int .i64 (r : Int))
  ne : Lf ≠ In ∧ V ≠ Lf ∧ V ≠ In ∧ w.heap.size < V ∧ w.heap.size < Lf ∧ w.heap.size < In

section
variable {w wr : World} {B Bc Bl n : Nat} {c : Nat → Int} {o wt pa de pe len : Nat → Int} {V Lf In l r : Nat}
theorem Env4.drewN (h : Env4 w wr B Bc Bl n c o wt pa de pe len V Lf In l r) (k : Nat) : Env4 w (wr.drewN k) B Bc Bl n c o wt pa de pe len V Lf In l r := ⟨h.env.drewN k, h.vv, h.lf, h.inn, h.ne⟩
theorem one_set {w : World} {b t : Nat} {f : Nat → Value} (h : w.rowIs b t 1 f) (v : Value) : (w.setCell ⟨b, 0, none⟩ v).rowIs b t 1 (fun _ => v) := (h.set 0 v).congr (fun i hi => by
  have : i = 0 := by omega
  subst this; simp)
theorem Env4.setLf (h : Env4 w wr B Bc Bl n c o wt pa de pe len V Lf In l r) (l' : Nat) : Env4 w (wr.setCell ⟨Lf, 0, none⟩ (.int .i64 (l' : Int))) B Bc Bl n c o wt pa de pe len V Lf In l' r := by
  have g := h.ne
  exact ⟨h.env.other (show w.heap.size < Lf by omega) _, h.vv.setOther (show V ≠ Lf by omega) _, one_set h.lf _, h.inn.setOther (show In ≠ Lf by omega) _, g⟩
theorem Env4.setIn (h : Env4 w wr B Bc Bl n c o wt pa de pe len V Lf In l r) (r' : Nat) : Env4 w (wr.setCell ⟨In, 0, none⟩ (.int .i64 (r' : Int))) B Bc Bl n c o wt pa de pe len V Lf In l r' := by
  have g := h.ne
  exact ⟨h.env.other (show w.heap.size < In by omega) _, h.vv.setOther (show V ≠ In by omega) _, h.lf.setOther (show Lf ≠ In by omega) _, one_set h.inn _, g⟩
theorem Env4.inB (h : Env4 w wr B Bc Bl n c o wt pa de pe len V Lf In l r) {i : Nat} {v : Value} {o' wt' pa' de' pe' : Nat → Int} (hb : Env w (wr.setCell ⟨B, i, none⟩ v) B Bc Bl n c o' wt' pa' de' pe' len) : Env4 w (wr.setCell ⟨B, i, none⟩ v) B Bc Bl n c o' wt' pa' de' pe' len V Lf In l r := by
  have g := h.ne
  have g2 := h.env.geo
  exact ⟨hb, h.vv.setOther (show V ≠ B by omega) v, h.lf.setOther (show Lf ≠ B by omega) v, h.inn.setOther (show In ≠ B by omega) v, g⟩

theorem pick_any (m : Nat) (h : Env4 w wr B Bc Bl n c o wt pa de pe len V Lf In l r) (hn : 2 ≤ n) (hn2 : n ≤ 255) (hnm : n ≤ m) (hm : m < 2 * n - 1) (hl : l ≤ n) (hr : r ≤ m) (hlr : l < n ∨ r < m) :
    Calls Try.prog 42 #[.int .i64 (m : Int), .pointer (some ⟨Lf, 0, none⟩), .pointer (some ⟨w.heap.size, 0, none⟩), .pointer (some ⟨In, 0, none⟩), .pointer (some ⟨V, 0, none⟩)] wr fun e w' => ∃ v l' r', e = .returned (.int .i64 ((v : Nat) : Int)) ∧ Pk n m wt l r v l' r' ∧ v ≤ m ∧ Env4 w w' B Bc Bl n c o wt pa de pe len V Lf In l' r' := by
  have f1 : wr.cell? ⟨Lf, 0, none⟩ = some (.int .i64 (l : Int)) := h.lf.cell (by omega)
  have f2 : wr.cell? ⟨w.heap.size, 0, none⟩ = some (.int .i64 (n : Int)) := h.env.nn.cell (by omega)
  have f3 : wr.cell? ⟨In, 0, none⟩ = some (.int .i64 (r : Int)) := h.inn.cell (by omega)
  have f4 : wr.cell? ⟨V, 0, none⟩ = some (.slice (some ⟨B, 255, none⟩) (2 * n - 1) 509) := h.vv.cell (by omega)
  by_cases e1 : l = n
  · refine (pickInnerAll wr m l n r Lf w.heap.size In V (by omega) e1 hn2 (by omega) f1 f2 f3 (h.inn.frozen 0)).mono ?_
    rintro e w' ⟨rfl, k, rfl⟩
    refine ⟨r, l, r + 1, rfl, Or.inr ⟨rfl, rfl, rfl, by omega, Or.inl e1⟩, by omega, ?_⟩
    have := (h.drewN k).setIn (r + 1)
    rwa [show (((r + 1 : Nat)) : Int) = (r : Int) + 1 by omega] at this
  · have hln : l < n := by omega
    by_cases e2 : r = m
    · refine (pickLeafAll wr m l n r Lf w.heap.size In V (by omega) hln hn2 e2 f1 f2 f3 (h.lf.frozen 0)).mono ?_
      rintro e w' ⟨rfl, k, rfl⟩
      refine ⟨l, l + 1, r, rfl, Or.inl ⟨rfl, rfl, rfl, hln, Or.inl e2⟩, by omega, ?_⟩
      have := (h.drewN k).setLf (l + 1)
      rwa [show (((l + 1 : Nat)) : Int) = (l : Int) + 1 by omega] at this
    · have hrm : r < m := by omega
      have f5 := h.env.hb.rWt (i := l) (by omega)
      have f6 := h.env.hb.rWt (i := r) (by omega)
      by_cases e3 : wt l ≤ wt r
      · refine (pickLeafLe wr m l n r Lf w.heap.size In V B (2 * n - 1) 509 (wt l) (wt r) (by omega) hln hn2 hrm (by omega) e3 f1 f2 f3 f4 f5 f6 (by omega) (h.lf.frozen 0)).mono ?_
        rintro e w' ⟨rfl, k, rfl⟩
        refine ⟨l, l + 1, r, rfl, Or.inl ⟨rfl, rfl, rfl, hln, Or.inr e3⟩, by omega, ?_⟩
        have := (h.drewN k).setLf (l + 1)
        rwa [show (((l + 1 : Nat)) : Int) = (l : Int) + 1 by omega] at this
      · refine (pickInnerLt wr m l n r Lf w.heap.size In V B (2 * n - 1) 509 (wt l) (wt r) (by omega) hln hn2 hrm (by omega) (by omega) f1 f2 f3 f4 f5 f6 (by omega) (h.inn.frozen 0)).mono ?_
        rintro e w' ⟨rfl, k, rfl⟩
        refine ⟨r, l, r + 1, rfl, Or.inr ⟨rfl, rfl, rfl, hrm, Or.inr (by omega)⟩, by omega, ?_⟩
        have := (h.drewN k).setIn (r + 1)
        rwa [show (((r + 1 : Nat)) : Int) = (r : Int) + 1 by omega] at this
theorem pick_at (mi : Int) (m : Nat) (hmi : mi = (m : Int)) (h : Env4 w wr B Bc Bl n c o wt pa de pe len V Lf In l r) (hn : 2 ≤ n) (hn2 : n ≤ 255) (hnm : n ≤ m) (hm : m < 2 * n - 1) (hl : l ≤ n) (hr : r ≤ m) (hlr : l < n ∨ r < m) :
    Calls Try.prog 42 #[.int .i64 mi, .pointer (some ⟨Lf, 0, none⟩), .pointer (some ⟨w.heap.size, 0, none⟩), .pointer (some ⟨In, 0, none⟩), .pointer (some ⟨V, 0, none⟩)] wr fun e w' => ∃ v l' r', e = .returned (.int .i64 ((v : Nat) : Int)) ∧ Pk n m wt l r v l' r' ∧ v ≤ m ∧ Env4 w w' B Bc Bl n c o wt pa de pe len V Lf In l' r' := by
  subst hmi
  exact pick_any m h hn hn2 hnm hm hl hr hlr
end
end Go.Proofs.Qxb6600394a.Hf
