import Derived.Test.Qxb6601138aMw
import Derived.Test.Qxb6601138aZh
namespace Go.Proofs.Qxb6601138a.Hf
open Go.RowKit Gw
set_option linter.unusedVariables false

/-- What a call of ZZPackageMerge comes to. -/
def MPost (w : World) (Bo nl n M : Nat) (len L : Nat → Int) (e : Ending) (w' : World) : Prop :=
  e = .returned (.tuple #[]) ∧ ∃ (k x : Nat) (l : Nat → Nat) (len' : Nat → Int), (0 < nl → w'.rowIs Bo 5 nl (fun i => .int .u8 (len' i))) ∧ LN n L len len' l ∧ k ≤ M ∧ ((2 ≤ n ∧ DN n M k x 0 l) ∨ (n < 2 ∧ ∀ i, l i = 0)) ∧ Kp Bo w w'

set_option maxHeartbeats 1000000 in
theorem zpm_any (w : World) (Bo nl n M : Nat) (ao av : Option Addr) (len L : Nat → Int) (hP : Hid (PP n nl M len L)) (h1 : Hid (0 < nl → ao = some ⟨Bo, 0, none⟩ ∧ w.rowIs Bo 5 nl (fun i => .int .u8 (len i)))) (h2 : Hid (0 < n → ∃ Bv, av = some ⟨Bv, 0, none⟩ ∧ Bv ≠ Bo ∧ w.rowIs Bv 28 n (fun i => .int .u64 (L i)))) :
    Calls Try.prog 25 #[.slice ao nl nl, .slice av n n, .int .i64 (M : Int)] w fun e w' => MPost w Bo nl n M len L e w' := by
  go_enter Try.func25, Try.ntmps25
  go_wp2_with fail
  have hs : (w.alloc (.cells #[.slice ao nl nl, .slice none 0 0, .slice av n n, .slice none 0 0, .slice none 0 0] 44)).rowIs w.heap.size 44 5 (cF (.slice ao nl nl) (.slice av n n) (.slice none 0 0) (.slice none 0 0)) :=
    World.rowIs_alloc w #[.slice ao nl nl, .slice none 0 0, .slice av n n, .slice none 0 0, .slice none 0 0] 44 _ (fun i hi => five i hi)
  have kp : Kp Bo w (w.alloc (.cells #[.slice ao nl nl, .slice none 0 0, .slice av n n, .slice none 0 0, .slice none 0 0] 44)) := (Kp.refl _ _).alloc _
  have E : Hid (ZE (w.alloc (.cells #[.slice ao nl nl, .slice none 0 0, .slice av n n, .slice none 0 0, .slice none 0 0] 44)) (w.alloc (.cells #[.slice ao nl nl, .slice none 0 0, .slice av n n, .slice none 0 0, .slice none 0 0] 44)) w.heap.size Bo nl n ao av len L) := by
    refine ⟨⟨by simp, fun hn => ⟨(h1.out hn).1, ?_, ?_⟩⟩, hs, fun hn => (h1.out hn).2.alloc _, fun hn => ?_, fun _ _ _ _ => rfl, rfl, rfl, rfl, Nat.le_refl _⟩
    · have := (h1.out hn).2.lt; simp; omega
    · have := (h1.out hn).2.lt; omega
    · obtain ⟨Bv, e1, e2, e3⟩ := h2.out hn
      have := e3.lt
      exact ⟨Bv, e1, by simp; omega, by omega, e2, e3.alloc _⟩
  have sz : (w.alloc (.cells #[.slice ao nl nl, .slice none 0 0, .slice av n n, .slice none 0 0, .slice none 0 0] 44)).heap.size = w.heap.size + 1 := by simp
  generalize (w.alloc (.cells #[.slice ao nl nl, .slice none 0 0, .slice av n n, .slice none 0 0, .slice none 0 0] 44)) = w1 at hs kp sz E ⊢
  refine (pm_any w1 w.heap.size Bo nl n M ao av len L hP.out.hn hP.out.hM hP E).mono ?_
  rintro e w' ⟨rfl, k, x, l, len', p1, p2, p3, p4⟩
  have R : Hid (MPost w Bo nl n M len L (.returned (.tuple #[])) w') :=
    ⟨rfl, k, x, l, len', p1.ll, p2, p3, p4, ⟨p1.en.1.trans kp.os, p1.en.2.1.trans kp.tape, p1.en.2.2.1.trans kp.output, by have := p1.en.2.2.2; omega, fun j h1 h2 => (p1.kp j (by omega) h2 (by omega)).trans (kp.block j h1 h2)⟩⟩
  clear p1 p2 p3 p4 hs kp sz E h1 h2 hP
  go_wp2
  go_end0
  exact R.out
end Go.Proofs.Qxb6601138a.Hf
