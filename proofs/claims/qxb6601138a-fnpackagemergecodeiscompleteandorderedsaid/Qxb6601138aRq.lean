import Derived.Test.Qxb6601138aRp
import Derived.Laws.IdiomCopy
namespace Go.Proofs.Qxb6601138a.Hf
open Go.RowKit Gw
set_option linter.unusedVariables false

theorem size4 : (Try.prog.info? 4).map (·.size) = some 1 := by kernel_rfl
theorem rowIs_setCells {b t n : Nat} {v : Value} : ∀ (m : Nat) {w : World} {f : Nat → Value} (o : Nat), w.rowIs b t n f → (w.setCells b o (List.replicate m v)).rowIs b t n (fun i => if o ≤ i ∧ i < o + m then v else f i) := by
  intro m
  induction m with
  | zero => intro w f o h; exact h.congr (fun i hi => by rw [if_neg (by omega)])
  | succ m ih =>
    intro w f o h
    have h2 := ih (o + 1) (h.set o v)
    have e : w.setCells b o (List.replicate (m + 1) v) = (w.setCell ⟨b, o, none⟩ v).setCells b (o + 1) (List.replicate m v) := rfl
    rw [e]
    refine h2.congr (fun i hi => ?_)
    by_cases e1 : i = o
    · subst e1; rw [if_neg (by omega), if_pos rfl, if_pos (by omega)]
    · by_cases e2 : o + 1 ≤ i ∧ i < o + 1 + m
      · rw [if_pos e2, if_pos (by omega)]
      · rw [if_neg e2, if_neg e1, if_neg (by omega)]
theorem below_setCells {B b : Nat} {w0 : World} (hb : B ≤ b) : ∀ (cs : List Value) {w : World} (o : Nat), Below B w0 w → Below B w0 (w.setCells b o cs) := by
  intro cs
  induction cs with
  | nil => intro w o h; exact h
  | cons c cs ih => intro w o h; exact ih (o + 1) (h.setCell hb c)
theorem copy_trues (w : World) (ty b o dLen dCap : Nat) (a : Addr) (sLen sCap m : Nat) (hm : m = Nat.min sLen dLen) (hs : ∀ j, j < m → w.cell? (a.add j) = some (.bool true)) (hc : ∀ j, j < m → (w.cell? ⟨b, o + j, none⟩).isSome = true) (hf : ∀ j, j < m → w.frozen? ⟨b, o + j, none⟩ = false) :
    (Builtin.copy_ #[38, 38] ty #[.slice (some ⟨b, o, none⟩) dLen dCap, .slice (some a) sLen sCap]).run Try.prog w = .ok (goInt m) (w.setCells b o (List.replicate m (.bool true))) := by
  have h := run_copy_cells (P := Try.prog) w 38 38 ty 4 b o dLen dCap a sLen sCap (List.replicate m (.bool true)) Try.underlying38 size4 (by rw [List.length_replicate]; exact hm) (fun j v hv => by
    rw [List.getElem?_replicate] at hv
    by_cases e : j < m
    · rw [if_pos e] at hv; cases hv; exact hs j e
    · rw [if_neg e] at hv; cases hv) (fun j hj => hc j (by simpa using hj)) (fun j hj => hf j (by simpa using hj)) (fun v hv => by
    rw [(List.mem_replicate.1 hv).2]; rfl)
  rw [List.length_replicate] at h
  exact h
end Go.Proofs.Qxb6601138a.Hf
