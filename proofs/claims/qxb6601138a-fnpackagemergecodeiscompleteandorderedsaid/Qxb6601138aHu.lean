import Derived.Test.Qxb6601138aSw
import Derived.Deep.RegionWith
namespace Go.Proofs.Qxb6601138a.Hf
open Go.RowKit Gw
set_option linter.unusedVariables false

/-- Nothing that was there has turned but block X. -/
structure Kp (X : Nat) (w w' : World) : Prop where
  os : w'.os = w.os
  tape : w'.tape = w.tape
  output : w'.output = w.output
  size : w.heap.size ≤ w'.heap.size
  block : ∀ k, k < w.heap.size → k ≠ X → w'.heap[k]? = w.heap[k]?
section
variable {X : Nat} {w w' w'' : World}
theorem Kp.refl (X : Nat) (w : World) : Kp X w w := ⟨rfl, rfl, rfl, Nat.le_refl _, fun _ _ _ => rfl⟩
theorem Kp.drewN (h : Kp X w w') (k : Nat) : Kp X w (w'.drewN k) := ⟨h.os, h.tape, h.output, h.size, h.block⟩
theorem Kp.drew (h : Kp X w w') : Kp X w w'.drew := ⟨h.os, h.tape, h.output, h.size, h.block⟩
theorem Kp.setCell (h : Kp X w w') {a : Addr} (ha : a.block = X ∨ w.heap.size ≤ a.block) (v : Value) : Kp X w (w'.setCell a v) :=
  ⟨h.os, h.tape, h.output, by simpa [World.setCell] using h.size, fun k h1 h2 => by rw [Below.heap_setCell _ _ _ _ (by omega)]; exact h.block k h1 h2⟩
theorem Kp.below (h : Kp X w w') (hb : Below w'.heap.size w' w'') : Kp X w w'' :=
  ⟨hb.os.trans h.os, hb.tape.trans h.tape, hb.output.trans h.output, Nat.le_trans h.size hb.size, fun k h1 h2 => (hb.block k (Nat.lt_of_lt_of_le h1 h.size)).trans (h.block k h1 h2)⟩
theorem Kp.alloc (h : Kp X w w') (o : Obj) : Kp X w (w'.alloc o) := h.below ((Below.refl _ _).alloc (Nat.le_refl _) o)
theorem Kp.row {b t n : Nat} {f : Nat → Value} (h : Kp X w w') (hr : w.rowIs b t n f) (hb : b ≠ X) : w'.rowIs b t n f := hr.of_block (h.block b hr.lt hb)
theorem Kp.toBelow (h : Kp X w w') {B : Nat} (hB : B ≤ X) (hB2 : B ≤ w.heap.size) : Below B w w' := ⟨h.os, h.tape, h.output, h.size, fun k hk => h.block k (by omega) (by omega)⟩
theorem row_below {b t n B : Nat} {f : Nat → Value} (hr : w.rowIs b t n f) (h : Below B w w') (hb : b < B) : w'.rowIs b t n f := hr.of_block (h.block b hb)
end

/-- The cells of a code. -/
def cF (a0 a2 a3 a4 : Value) (i : Nat) : Value := if i = 0 then a0 else if i = 2 then a2 else if i = 3 then a3 else if i = 4 then a4 else .slice none 0 0

/-- The memory of a call of huffman. -/
structure HE (w wr : World) (B Bo Bv nl n : Nat) (len L : Nat → Int) (a3 a4 : Value) : Prop where
  geo : Bo ≠ Bv ∧ Bo ≠ B ∧ Bv ≠ B ∧ Bo < w.heap.size ∧ Bv < w.heap.size ∧ B < w.heap.size
  st : wr.rowIs B 44 5 (cF (.slice (some ⟨Bo, 0, none⟩) nl nl) (.slice (some ⟨Bv, 0, none⟩) n n) a3 a4)
  ll : wr.rowIs Bo 5 nl (fun i => .int .u8 (len i))
  lv : wr.rowIs Bv 28 n (fun i => .int .u64 (L i))
  kp : ∀ k, k < w.heap.size → k ≠ Bo → k ≠ B → wr.heap[k]? = w.heap[k]?
  en : wr.os = w.os ∧ wr.tape = w.tape ∧ wr.output = w.output ∧ w.heap.size ≤ wr.heap.size
section
variable {w wr w' : World} {B Bo Bv nl n : Nat} {len L : Nat → Int} {a3 a4 : Value}
theorem HE.below (h : HE w wr B Bo Bv nl n len L a3 a4) (hb : Below wr.heap.size wr w') : HE w w' B Bo Bv nl n len L a3 a4 := by
  have e := h.en
  exact ⟨h.geo, row_below h.st hb h.st.lt, row_below h.ll hb h.ll.lt, row_below h.lv hb h.lv.lt, fun k h1 h2 h3 => (hb.block k (by omega)).trans (h.kp k h1 h2 h3), hb.os.trans e.1, hb.tape.trans e.2.1, hb.output.trans e.2.2.1, Nat.le_trans e.2.2.2 hb.size⟩
theorem HE.drewN (h : HE w wr B Bo Bv nl n len L a3 a4) (k : Nat) : HE w (wr.drewN k) B Bo Bv nl n len L a3 a4 := ⟨h.geo, h.st, h.ll, h.lv, h.kp, h.en⟩
theorem HE.other (h : HE w wr B Bo Bv nl n len L a3 a4) {a : Addr} (ha : w.heap.size ≤ a.block) (v : Value) : HE w (wr.setCell a v) B Bo Bv nl n len L a3 a4 := by
  have g := h.geo
  exact ⟨g, h.st.setOther (by omega) v, h.ll.setOther (by omega) v, h.lv.setOther (by omega) v, fun k h1 h2 h3 => by rw [Below.heap_setCell _ _ _ _ (by omega)]; exact h.kp k h1 h2 h3, h.en.1, h.en.2.1, h.en.2.2.1, by simpa [World.setCell] using h.en.2.2.2⟩
theorem HE.set3 (h : HE w wr B Bo Bv nl n len L a3 a4) (v : Value) : HE w (wr.setCell ⟨B, 3, none⟩ v) B Bo Bv nl n len L v a4 := by
  have g := h.geo
  exact ⟨g, (h.st.set 3 v).congr (fun i hi => by
    by_cases e : i = 3
    · subst e; simp [cF]
    · simp [cF, e]), h.ll.setOther (show Bo ≠ B by omega) v, h.lv.setOther (show Bv ≠ B by omega) v, fun k h1 h2 h3 => by rw [Below.heap_setCell _ _ _ _ (show k ≠ B by omega)]; exact h.kp k h1 h2 h3, h.en.1, h.en.2.1, h.en.2.2.1, by simpa [World.setCell] using h.en.2.2.2⟩
theorem HE.set4 (h : HE w wr B Bo Bv nl n len L a3 a4) (v : Value) : HE w (wr.setCell ⟨B, 4, none⟩ v) B Bo Bv nl n len L a3 v := by
  have g := h.geo
  exact ⟨g, (h.st.set 4 v).congr (fun i hi => by
    by_cases e : i = 4
    · subst e; simp [cF]
    · simp [cF, e]), h.ll.setOther (show Bo ≠ B by omega) v, h.lv.setOther (show Bv ≠ B by omega) v, fun k h1 h2 h3 => by rw [Below.heap_setCell _ _ _ _ (show k ≠ B by omega)]; exact h.kp k h1 h2 h3, h.en.1, h.en.2.1, h.en.2.2.1, by simpa [World.setCell] using h.en.2.2.2⟩
theorem HE.setL (h : HE w wr B Bo Bv nl n len L a3 a4) (i : Nat) (v : Int) : HE w (wr.setCell ⟨Bo, i, none⟩ (.int .u8 v)) B Bo Bv nl n (upd len i v) L a3 a4 := by
  have g := h.geo
  refine ⟨g, h.st.setOther (show B ≠ Bo by omega) _, (h.ll.set i _).congr (fun j hj => ?_), h.lv.setOther (show Bv ≠ Bo by omega) _, fun k h1 h2 h3 => by rw [Below.heap_setCell _ _ _ _ (show k ≠ Bo by omega)]; exact h.kp k h1 h2 h3, h.en.1, h.en.2.1, h.en.2.2.1, by simpa [World.setCell] using h.en.2.2.2⟩
  by_cases e : j = i
  · subst e; rw [if_pos rfl, upd_same]
  · rw [if_neg e, upd_ne e]
theorem HE.c0 (h : HE w wr B Bo Bv nl n len L a3 a4) : wr.cell? ⟨B, 0, none⟩ = some (.slice (some ⟨Bo, 0, none⟩) nl nl) := h.st.cell (by omega)
theorem HE.c2 (h : HE w wr B Bo Bv nl n len L a3 a4) : wr.cell? ⟨B, 2, none⟩ = some (.slice (some ⟨Bv, 0, none⟩) n n) := h.st.cell (by omega)
theorem HE.c3 (h : HE w wr B Bo Bv nl n len L a3 a4) : wr.cell? ⟨B, 3, none⟩ = some a3 := h.st.cell (by omega)
theorem HE.c4 (h : HE w wr B Bo Bv nl n len L a3 a4) : wr.cell? ⟨B, 4, none⟩ = some a4 := h.st.cell (by omega)
end

/-- .. with the two arrays that huffman makes. -/
structure HW (w wr : World) (B Bo Bv nl n : Nat) (len L : Nat → Int) (Wb cw Pb cp : Nat) (wf : Nat → Int) (pf : Nat → Nat) : Prop where
  he : HE w wr B Bo Bv nl n len L (.slice (some ⟨Wb, 0, none⟩) (n - 1) cw) (.slice (some ⟨Pb, 0, none⟩) (2 * n - 1) cp)
  ww : wr.rowIs Wb 28 cw (fun i => .int .u64 (wf i))
  pp : wr.rowIs Pb 21 cp (fun i => .int .i32 (pf i : Int))
  ne : Wb ≠ Pb ∧ w.heap.size ≤ Wb ∧ w.heap.size ≤ Pb ∧ n - 1 ≤ cw ∧ 2 * n - 1 ≤ cp
section
variable {w wr w' : World} {B Bo Bv nl n : Nat} {len L : Nat → Int} {Wb cw Pb cp : Nat} {wf : Nat → Int} {pf : Nat → Nat}
theorem HW.drewN (h : HW w wr B Bo Bv nl n len L Wb cw Pb cp wf pf) (k : Nat) : HW w (wr.drewN k) B Bo Bv nl n len L Wb cw Pb cp wf pf := ⟨h.he.drewN k, h.ww, h.pp, h.ne⟩
theorem HW.setW (h : HW w wr B Bo Bv nl n len L Wb cw Pb cp wf pf) (i : Nat) (v : Int) : HW w (wr.setCell ⟨Wb, i, none⟩ (.int .u64 v)) B Bo Bv nl n len L Wb cw Pb cp (upd wf i v) pf := by
  have g := h.ne
  refine ⟨h.he.other (show w.heap.size ≤ Wb by omega) _, (h.ww.set i _).congr (fun j hj => ?_), h.pp.setOther (show Pb ≠ Wb by omega) _, g⟩
  by_cases e : j = i
  · subst e; rw [if_pos rfl, upd_same]
  · rw [if_neg e, upd_ne e]
theorem HW.setP (h : HW w wr B Bo Bv nl n len L Wb cw Pb cp wf pf) (i v : Nat) : HW w (wr.setCell ⟨Pb, i, none⟩ (.int .i32 (v : Int))) B Bo Bv nl n len L Wb cw Pb cp wf (upd pf i v) := by
  have g := h.ne
  refine ⟨h.he.other (show w.heap.size ≤ Pb by omega) _, h.ww.setOther (show Wb ≠ Pb by omega) _, (h.pp.set i _).congr (fun j hj => ?_), g⟩
  by_cases e : j = i
  · subst e; rw [if_pos rfl, upd_same]
  · rw [if_neg e, upd_ne e]
theorem HW.setL (h : HW w wr B Bo Bv nl n len L Wb cw Pb cp wf pf) (i : Nat) (v : Int) : HW w (wr.setCell ⟨Bo, i, none⟩ (.int .u8 v)) B Bo Bv nl n (upd len i v) L Wb cw Pb cp wf pf := by
  have g := h.ne
  have g2 := h.he.geo
  exact ⟨h.he.setL i v, h.ww.setOther (show Wb ≠ Bo by omega) _, h.pp.setOther (show Pb ≠ Bo by omega) _, g⟩
end

/-- The arrays hold the queues' state. -/
def WS (n t : Nat) (s : QS) (wf : Nat → Int) (pf : Nat → Nat) : Prop := (∀ k, k < t → wf k = s.iw k) ∧ (∀ i, i < s.l → pf i = s.lp i) ∧ (∀ k, k < s.q → pf (n + k) = s.ip k)
theorem WS.leaf {n t : Nat} {lw : Nat → Int} {s : QS} {wf : Nat → Int} {pf : Nat → Nat} (h : WS n t s wf pf) (hb : s.l < n ∧ (s.q = t ∨ lw s.l ≤ s.iw s.q)) (hl : s.l ≤ n) :
    WS n t (pk1 n lw t s) wf (upd pf s.l t) ∧ (pk1 n lw t s).l = s.l + 1 ∧ (pk1 n lw t s).q = s.q ∧ wk1 n lw t s = lw s.l := by
  have e : pb n lw t s = true := decide_eq_true hb
  unfold pk1 wk1
  rw [e]
  refine ⟨⟨h.1, fun i hi => ?_, fun k hk => ?_⟩, rfl, rfl, rfl⟩
  · show upd pf s.l t i = upd s.lp s.l t i
    by_cases e2 : i = s.l
    · subst e2; rw [upd_same, upd_same]
    · have hi' : i < s.l + 1 := hi
      rw [upd_ne e2, upd_ne e2]; exact h.2.1 i (by omega)
  · show upd pf s.l t (n + k) = s.ip k
    rw [upd_ne (by omega)]; exact h.2.2 k hk
theorem WS.inner {n t : Nat} {lw : Nat → Int} {s : QS} {wf : Nat → Int} {pf : Nat → Nat} (h : WS n t s wf pf) (hb : ¬ (s.l < n ∧ (s.q = t ∨ lw s.l ≤ s.iw s.q))) (hl : s.l ≤ n) :
    WS n t (pk1 n lw t s) wf (upd pf (n + s.q) t) ∧ (pk1 n lw t s).l = s.l ∧ (pk1 n lw t s).q = s.q + 1 ∧ wk1 n lw t s = s.iw s.q := by
  have e : pb n lw t s = false := decide_eq_false hb
  unfold pk1 wk1
  rw [e]
  refine ⟨⟨h.1, fun i hi => ?_, fun k hk => ?_⟩, rfl, rfl, rfl⟩
  · show upd pf (n + s.q) t i = s.lp i
    have hi' : i < s.l := hi
    rw [upd_ne (by omega)]; exact h.2.1 i hi
  · show upd pf (n + s.q) t (n + k) = upd s.ip s.q t k
    by_cases e2 : k = s.q
    · subst e2; rw [upd_same, upd_same]
    · have hk' : k < s.q + 1 := hk
      rw [upd_ne (by omega), upd_ne e2]; exact h.2.2 k (by omega)
/-- The state c picks into round t. -/
def QC (n : Nat) (lw : Nat → Int) (t c : Nat) (s : QS) (x : Int) : Prop :=
  (c = 0 ∧ s = qs n lw t ∧ x = 0) ∨ (c = 1 ∧ s = pk1 n lw t (qs n lw t) ∧ x = wk1 n lw t (qs n lw t)) ∨ (c = 2 ∧ s = pk1 n lw t (pk1 n lw t (qs n lw t)) ∧ x = wk1 n lw t (qs n lw t) + wk1 n lw t (pk1 n lw t (qs n lw t)))
theorem QC.next {n t c : Nat} {lw : Nat → Int} {s : QS} {x : Int} (h : QC n lw t c s x) (hc : c < 2) : QC n lw t (c + 1) (pk1 n lw t s) (x + wk1 n lw t s) := by
  rcases h with ⟨rfl, rfl, rfl⟩ | ⟨rfl, rfl, rfl⟩ | ⟨rfl, _, _⟩
  · exact Or.inr (Or.inl ⟨rfl, rfl, by omega⟩)
  · exact Or.inr (Or.inr ⟨rfl, rfl, rfl⟩)
  · omega
theorem QC.th {n t c : Nat} {lw : Nat → Int} {s : QS} {x : Int} (h : QC n lw t c s x) (hc : c < 2) (hn : 1 ≤ n) (ls : ∀ i j, i ≤ j → j < n → lw i ≤ lw j) (lpos : ∀ i, i < n → 0 ≤ lw i) (ht : t + 2 ≤ n) : THs n lw t s c x := by
  have q := qs_half hn ls lpos ht
  rcases h with ⟨rfl, rfl, rfl⟩ | ⟨rfl, rfl, rfl⟩ | ⟨rfl, _, _⟩
  · exact q.1
  · exact q.2
  · omega
theorem QC.made {n t : Nat} {lw : Nat → Int} {s : QS} {x : Int} {wf : Nat → Int} {pf : Nat → Nat} (h : QC n lw t 2 s x) (hw : WS n t s wf pf) : WS n (t + 1) (qs n lw (t + 1)) (upd wf t x) pf ∧ (qs n lw (t + 1)).l = s.l ∧ (qs n lw (t + 1)).q = s.q := by
  rcases h with ⟨h, _, _⟩ | ⟨h, _, _⟩ | ⟨_, rfl, rfl⟩
  · omega
  · omega
  · refine ⟨⟨fun k hk => ?_, hw.2.1, hw.2.2⟩, rfl, rfl⟩
    show upd wf t _ k = upd (qs n lw t).iw t _ k
    by_cases e : k = t
    · subst e; rw [upd_same, upd_same]
    · rw [upd_ne e, upd_ne e, hw.1 k (by omega), pk1_iw, pk1_iw]
end Go.Proofs.Qxb6601138a.Hf
