import Derived.Test.Qxb6601138aKc
import Derived.Laws.AppendOwn
namespace Go.Proofs.Qxb6601138a.Hf
open Go.RowKit Gw
set_option linter.unusedVariables false

/-- One cell appended to a row with room. -/
theorem append_one (w : World) (t ty e : TypeId) (ht : Try.prog.underlying t = some (.slice e)) (hs : (Try.prog.info? e).map (·.size) = some 1) (g n cap : Nat) (f : Nat → Value) (hg : w.rowIs g e cap f) (hn : n < cap) (a : Addr) (c : Nat) (v : Value) (ha : w.cell? a = some v) (hv : v.oneCell' = true) :
    ∃ w', (Builtin.append_ #[t, t] ty #[.slice (some ⟨g, 0, none⟩) n cap, .slice (some a) 1 c]).run Try.prog w = .ok (.slice (some ⟨g, 0, none⟩) (n + 1) cap) w' ∧ w'.rowIs g e cap (upd f n v) ∧ (∀ k, k ≠ g → w'.heap[k]? = w.heap[k]?) ∧ w'.os = w.os ∧ w'.tape = w.tape ∧ w'.output = w.output ∧ w'.heap.size = w.heap.size := by
  obtain ⟨cur, h1, h2, h3⟩ := hg
  obtain ⟨i, hi, hsz⟩ := Option.map_eq_some_iff.1 hs
  have hr := run_append_room (P := Try.prog) w t ty e i ht hi g n cap cur h1 a 1 c [v] (by rw [hsz]; rfl) (fun j u hu => by
    match j, hu with
    | 0, hu => simp at hu; subst hu; simpa [Addr.add] using ha
    | j + 1, hu => simp at hu) (fun u hu => by simp at hu; subst hu; exact hv) (by omega) (by rw [hsz]; simp; omega)
  rw [hsz, Nat.mul_one] at hr
  refine ⟨_, hr, ⟨_, setRow_heap w g cur _ e _ h1, ?_, fun k hk => ?_⟩, fun k hk => setRow_other w g k _ (fun e => hk (by simp [e])), rfl, rfl, rfl, by simp⟩
  · simp; omega
  · rw [List.getElem?_toArray]
    have e1 : (List.take n cur.toList).length = n := by simp; omega
    by_cases e : k = n
    · subst e
      rw [upd_same, List.append_assoc, List.getElem?_append_right (by omega), e1, Nat.sub_self]; rfl
    · rw [upd_ne e]
      by_cases e2 : k < n
      · rw [List.append_assoc, List.getElem?_append_left (by omega), List.getElem?_take_of_lt e2, Array.getElem?_toList]; exact h3 k hk
      · rw [List.getElem?_append_right (by simp; omega), List.getElem?_drop, Array.getElem?_toList, ← h3 k hk]
        congr 1
        simp
        omega
end Go.Proofs.Qxb6601138a.Hf
