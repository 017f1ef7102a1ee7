import Derived.Test.Qxb6601138aMa
import Derived.Test.Qxb6601138aMr
import Derived.Test.Qxb6601138aRr
namespace Go.Proofs.Qxb6601138a.Hf
open Go.RowKit Gw
set_option linter.unusedVariables false

/-- The memory of a call of packageMerge: the code at B, its lens at Bo, its leaves at Bv (nil where there are none), the weights at Wb. -/
structure ZE (w wr : World) (B Bo nl n : Nat) (ao av : Option Addr) (len L : Nat → Int) : Prop where
  geo : B < w.heap.size ∧ (0 < nl → ao = some ⟨Bo, 0, none⟩ ∧ Bo < w.heap.size ∧ Bo ≠ B)
  st : wr.rowIs B 44 5 (cF (.slice ao nl nl) (.slice av n n) (.slice none 0 0) (.slice none 0 0))
  ll : 0 < nl → wr.rowIs Bo 5 nl (fun i => .int .u8 (len i))
  lv : 0 < n → ∃ Bv, av = some ⟨Bv, 0, none⟩ ∧ Bv < w.heap.size ∧ Bv ≠ B ∧ Bv ≠ Bo ∧ wr.rowIs Bv 28 n (fun i => .int .u64 (L i))
  kp : ∀ k, k < w.heap.size → k ≠ Bo → k ≠ B → wr.heap[k]? = w.heap[k]?
  en : wr.os = w.os ∧ wr.tape = w.tape ∧ wr.output = w.output ∧ w.heap.size ≤ wr.heap.size
section
variable {w wr w' : World} {B Bo nl n : Nat} {ao av : Option Addr} {len L : Nat → Int}
/-- What turns nothing below the old memory's end keeps it. -/
theorem ZE.keep (h : ZE w wr B Bo nl n ao av len L) (hb : ∀ k, k < w.heap.size → w'.heap[k]? = wr.heap[k]?) (he : w'.os = wr.os ∧ w'.tape = wr.tape ∧ w'.output = wr.output ∧ wr.heap.size ≤ w'.heap.size) : ZE w w' B Bo nl n ao av len L := by
  refine ⟨h.geo, h.st.of_block (hb B h.geo.1), fun hn => (h.ll hn).of_block (hb Bo (h.geo.2 hn).2.1), fun hn => ?_, fun k h1 h2 h3 => (hb k h1).trans (h.kp k h1 h2 h3), ?_⟩
  · obtain ⟨Bv, e1, e2, e3, e4, e5⟩ := h.lv hn
    exact ⟨Bv, e1, e2, e3, e4, e5.of_block (hb Bv e2)⟩
  · have a := h.en
    exact ⟨he.1.trans a.1, he.2.1.trans a.2.1, he.2.2.1.trans a.2.2.1, Nat.le_trans a.2.2.2 he.2.2.2⟩
theorem ZE.c0 (h : ZE w wr B Bo nl n ao av len L) : wr.cell? ⟨B, 0, none⟩ = some (.slice ao nl nl) := h.st.cell (by omega)
theorem ZE.c2 (h : ZE w wr B Bo nl n ao av len L) : wr.cell? ⟨B, 2, none⟩ = some (.slice av n n) := h.st.cell (by omega)
theorem ZE.setL (h : ZE w wr B Bo nl n ao av len L) (hl : 0 < nl) (i : Nat) (v : Int) : ZE w (wr.setCell ⟨Bo, i, none⟩ (.int .u8 v)) B Bo nl n ao av (upd len i v) L := by
  have g := (h.geo.2 hl).2
  refine ⟨h.geo, h.st.setOther (show B ≠ Bo by omega) _, fun _ => ((h.ll hl).set i _).congr (fun j hj => ?_), fun hn => ?_, fun k h1 h2 h3 => by rw [Below.heap_setCell _ _ _ _ (show k ≠ Bo by omega)]; exact h.kp k h1 h2 h3, h.en.1, h.en.2.1, h.en.2.2.1, by simpa [World.setCell] using h.en.2.2.2⟩
  · by_cases e : j = i
    · subst e; rw [if_pos rfl, upd_same]
    · rw [if_neg e, upd_ne e]
  · obtain ⟨Bv, e1, e2, e3, e4, e5⟩ := h.lv hn
    exact ⟨Bv, e1, e2, e3, e4, e5.setOther (show Bv ≠ Bo from e4) _⟩
end
end Go.Proofs.Qxb6601138a.Hf
