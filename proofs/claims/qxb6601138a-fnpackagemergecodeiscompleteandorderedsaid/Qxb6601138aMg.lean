import Derived.Test.Qxb6601138aMf
import Derived.Laws.MakeOwn
namespace Go.Proofs.Qxb6601138a.Hf
open Go.RowKit Gw
set_option linter.unusedVariables false

/-- make([]T, 0, n), T of one cell. -/
theorem make_room (t e : TypeId) (z : Value) (bytes : Nat) (ht : Try.prog.underlying t = some (.slice e)) (hinfo : (Try.prog.info? e).map (fun i => (i.zero, i.size, i.bytes)) = some (some z, 1, bytes)) (hz1 : z.cells = #[z])
    (kl kc : IntKind) (n : Nat) (hbytes : bytes * n ≤ 281474976710656) (h63 : n ≤ 9223372036854775807) (w : World) :
    (Instr.makeSlice t (.int kl 0) (.int kc (n : Int))).run Try.prog w = .ok (.slice (some ⟨w.heap.size, 0, none⟩) 0 n) (w.alloc (.cells (madeCells #[z] n) e)) := by
  obtain ⟨i, hi, hzz⟩ := Option.map_eq_some_iff.1 hinfo
  simp only [Prod.mk.injEq] at hzz
  obtain ⟨hz, hs, hb⟩ := hzz
  have hb' : (i.bytes : Int) * (n : Int) ≤ 281474976710656 := by
    have h : ((i.bytes * n : Nat) : Int) ≤ 281474976710656 := by rw [hb]; omega
    rwa [Int.natCast_mul] at h
  have hr := run_make (P := Try.prog) w t e i z ht hi hz kl kc 0 n (by omega) (by omega) hb' (by omega)
  simp only [Int.toNat_natCast, hs, Nat.mul_one, hz1] at hr
  exact hr

/-- The memory of a merge: the list on its way at V, its flags at G, all below w0's end as in w0. -/
structure MW (w0 wx : World) (V G C : Nat) (v : Nat → Int) (f : Nat → Bool) : Prop where
  bel : Below w0.heap.size w0 wx
  rv : wx.rowIs V 28 C (fun a => .int .u64 (v a))
  rg : wx.rowIs G 4 C (fun a => .bool (f a))
  geo : w0.heap.size ≤ V ∧ w0.heap.size ≤ G ∧ V ≠ G
section
variable {w0 W : World} {V G C m : Nat} {v : Nat → Int} {f : Nat → Bool}
theorem MW.alloc (h : MW w0 W V G C v f) (o : Obj) : MW w0 (W.alloc o) V G C v f := ⟨h.bel.alloc (h.bel.size) o, h.rv.alloc o, h.rg.alloc o, h.geo⟩
theorem MW.drew (h : MW w0 W V G C v f) : MW w0 W.drew V G C v f := ⟨h.bel.drew, h.rv.of_block rfl, h.rg.of_block rfl, h.geo⟩
theorem MW.drewN (h : MW w0 W V G C v f) (k : Nat) : MW w0 (W.drewN k) V G C v f := ⟨below_drw h.bel k, h.rv.of_block rfl, h.rg.of_block rfl, h.geo⟩
/-- What an append leaves of the rest. -/
structure Rest (W w' : World) (g : Nat) : Prop where
  blk : ∀ k, k ≠ g → w'.heap[k]? = W.heap[k]?
  size : w'.heap.size = W.heap.size
theorem Rest.cell {w' : World} {g b i : Nat} (h : Rest W w' g) (hb : b ≠ g) : w'.cell? ⟨b, i, none⟩ = W.cell? ⟨b, i, none⟩ := by
  simp only [World.cell?, h.blk b hb]
theorem MW.putV (h : MW w0 W V G C v f) (hm : m < C) {a : Addr} {x : Int} (ha : W.cell? a = some (.int .u64 x)) (c : Nat) (ty : TypeId) :
    ∃ w', (Builtin.append_ #[23, 23] ty #[.slice (some ⟨V, 0, none⟩) m C, .slice (some a) 1 c]).run Try.prog W = .ok (.slice (some ⟨V, 0, none⟩) (m + 1) C) w' ∧ MW w0 w' V G C (upd v m x) f ∧ Rest W w' V := by
  obtain ⟨w', h1, h2, h3, h4, h5, h6, h7⟩ := append_one W 23 ty 28 Try.underlying23 (by kernel_rfl) V m C _ h.rv hm a c _ ha rfl
  refine ⟨w', h1, ⟨⟨h4.trans h.bel.os, h5.trans h.bel.tape, h6.trans h.bel.output, by rw [h7]; exact h.bel.size, fun k hk => (h3 k (by have := h.geo.1; omega)).trans (h.bel.block k hk)⟩, h2.congr (fun j hj => ?_), h.rg.of_block (h3 G (fun e => h.geo.2.2 e.symm)), h.geo⟩, h3, h7⟩
  by_cases e : j = m
  · subst e; rw [upd_same, upd_same]
  · rw [upd_ne e, upd_ne e]
theorem MW.putG (h : MW w0 W V G C v f) (hm : m < C) {a : Addr} {x : Bool} (ha : W.cell? a = some (.bool x)) (c : Nat) (ty : TypeId) :
    ∃ w', (Builtin.append_ #[38, 38] ty #[.slice (some ⟨G, 0, none⟩) m C, .slice (some a) 1 c]).run Try.prog W = .ok (.slice (some ⟨G, 0, none⟩) (m + 1) C) w' ∧ MW w0 w' V G C v (upd f m x) ∧ Rest W w' G := by
  obtain ⟨w', h1, h2, h3, h4, h5, h6, h7⟩ := append_one W 38 ty 4 Try.underlying38 (by kernel_rfl) G m C _ h.rg hm a c _ ha rfl
  refine ⟨w', h1, ⟨⟨h4.trans h.bel.os, h5.trans h.bel.tape, h6.trans h.bel.output, by rw [h7]; exact h.bel.size, fun k hk => (h3 k (by have := h.geo.2.1; omega)).trans (h.bel.block k hk)⟩, h.rv.of_block (h3 V h.geo.2.2), h2.congr (fun j hj => ?_), h.geo⟩, h3, h7⟩
  by_cases e : j = m
  · subst e; rw [upd_same, upd_same]
  · rw [upd_ne e, upd_ne e]
end
section
variable {w : World} {o : Oper} {a : Act} {K : Act → World → Prop} {Q : Exit → Act → World → Prop}
/-- An append whose run is known but for the world. -/
theorem wp_app (s x : Operand) (t : TypeId) (ho : o.op = .call { callee := .builtin .append, args := #[s, x], argTypes := #[t, t] }) {s' x' r : Value} (hs : a.eval s = s') (hx : a.eval x = x') {T : World → Prop}
    (hr : ∃ w', (Builtin.append_ #[t, t] o.type #[s', x']).run Try.prog w = .ok r w' ∧ T w') (h : ∀ w', T w' → K (a.put o.dst r) w') : o.wp Try.prog a w K Q := by
  obtain ⟨w', hr, h2⟩ := hr
  unfold Oper.wp execOp
  simp only [ho, resolve, invoke, builtin, Sem.run_bind, Sem.run_pure, Result.andThen_ok, List.map_toArray, List.map_cons, List.map_nil, hs, hx, hr]
  exact h w' h2
theorem wpList_app {ops : Array Oper} {rest : List Oper} (hg : o.guard = none) (s x : Operand) (t : TypeId) (ho : o.op = .call { callee := .builtin .append, args := #[s, x], argTypes := #[t, t] }) {s' x' r : Value} (hs : a.eval s = s') (hx : a.eval x = x') {T : World → Prop}
    (hr : ∃ w', (Builtin.append_ #[t, t] o.type #[s', x']).run Try.prog w = .ok r w' ∧ T w') (h : ∀ w', T w' → wpList Try.prog ops Q rest (a.put o.dst r) w') : wpList Try.prog ops Q (o :: rest) a w :=
  wpList_plain hg fun _ hK => wp_app s x t ho hs hx hr fun w' h2 => hK _ _ (h w' h2)
theorem step_app {ops : Array Oper} {E : Prop} (hg : o.guard = none) (s x : Operand) (t : TypeId) (ho : o.op = .call { callee := .builtin .append, args := #[s, x], argTypes := #[t, t] }) {s' x' r : Value} (hs : a.eval s = s') (hx : a.eval x = x') {T : World → Prop}
    (hr : ∃ w', (Builtin.append_ #[t, t] o.type #[s', x']).run Try.prog w = .ok r w' ∧ T w') (h : ∀ w', T w' → K (a.put o.dst r) w') : if Region.wanted o (yielded ops a.tmps) = true then Oper.wp Try.prog o a w K Q else E := by
  have hw : Region.wanted o (yielded ops a.tmps) = true := by simp [Region.wanted, hg]
  rw [if_pos hw]
  exact wp_app s x t ho hs hx hr h
end
end Go.Proofs.Qxb6601138a.Hf
