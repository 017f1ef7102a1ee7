import Derived.Test.Qxb6601138aCm
namespace Go.Proofs.Qxb6601138a.Hf
open Go.RowKit Gw
set_option linter.unusedVariables false

/-- What a call of ZZHuffman comes to. -/
def ZPost (w : World) (Bo nl n : Nat) (len L : Nat → Int) (mb : Int) (e : Ending) (w' : World) : Prop :=
  ∃ (d : Nat → Nat) (k : Nat), Dep n (qs n (lwt L) (n - 1)).ip d ∧ k ≤ n ∧ (∀ i, i < k → (dl (qs n (lwt L) (n - 1)).lp d i : Int) ≤ lim mb) ∧ (k < n → lim mb < (dl (qs n (lwt L) (n - 1)).lp d k : Int)) ∧
    e = .returned (.bool (decide (k = n))) ∧ w'.rowIs Bo 5 nl (fun i => .int .u8 (asg len (fun i => sN (L i)) (dl (qs n (lwt L) (n - 1)).lp d) k i)) ∧ Kp Bo w w'

theorem five {a b : Value} (i : Nat) (hi : i < (#[a, .slice none 0 0, b, .slice none 0 0, .slice none 0 0] : Array Value).size) : (#[a, .slice none 0 0, b, .slice none 0 0, .slice none 0 0] : Array Value)[i]? = some (cF a b (.slice none 0 0) (.slice none 0 0) i) := by
  have h5 : i < 5 := hi
  rcases (show i = 0 ∨ i = 1 ∨ i = 2 ∨ i = 3 ∨ i = 4 by omega) with rfl | rfl | rfl | rfl | rfl <;> rfl
set_option maxHeartbeats 1000000 in
theorem zhuff_any (w : World) (Bo Bv nl n : Nat) (len L : Nat → Int) (mb : Int) (hL : Lv n nl L) (hg : Bo ≠ Bv) (h1 : w.rowIs Bo 5 nl (fun i => .int .u8 (len i))) (h2 : w.rowIs Bv 28 n (fun i => .int .u64 (L i))) :
    Calls Try.prog 14 #[.slice (some ⟨Bo, 0, none⟩) nl nl, .slice (some ⟨Bv, 0, none⟩) n n, .int .i64 mb] w fun e w' => ZPost w Bo nl n len L mb e w' := by
  have H : Hid (Lv n nl L ∧ w.rowIs Bo 5 nl (fun i => .int .u8 (len i)) ∧ w.rowIs Bv 28 n (fun i => .int .u64 (L i))) := ⟨hL, h1, h2⟩
  clear hL h1 h2
  go_enter Try.func14, Try.ntmps14
  go_wp2_with fail
  have hs : (w.alloc (.cells #[.slice (some ⟨Bo, 0, none⟩) nl nl, .slice none 0 0, .slice (some ⟨Bv, 0, none⟩) n n, .slice none 0 0, .slice none 0 0] 44)).rowIs w.heap.size 44 5 (cF (.slice (some ⟨Bo, 0, none⟩) nl nl) (.slice (some ⟨Bv, 0, none⟩) n n) (.slice none 0 0) (.slice none 0 0)) :=
    World.rowIs_alloc w #[.slice (some ⟨Bo, 0, none⟩) nl nl, .slice none 0 0, .slice (some ⟨Bv, 0, none⟩) n n, .slice none 0 0, .slice none 0 0] 44 _ (fun i hi => five i hi)
  have a1 := H.out.2.1.alloc (.cells #[.slice (some ⟨Bo, 0, none⟩) nl nl, .slice none 0 0, .slice (some ⟨Bv, 0, none⟩) n n, .slice none 0 0, .slice none 0 0] 44)
  have a2 := H.out.2.2.alloc (.cells #[.slice (some ⟨Bo, 0, none⟩) nl nl, .slice none 0 0, .slice (some ⟨Bv, 0, none⟩) n n, .slice none 0 0, .slice none 0 0] 44)
  have kp : Kp Bo w (w.alloc (.cells #[.slice (some ⟨Bo, 0, none⟩) nl nl, .slice none 0 0, .slice (some ⟨Bv, 0, none⟩) n n, .slice none 0 0, .slice none 0 0] 44)) := (Kp.refl _ _).alloc _
  have b1 := H.out.2.1.lt
  have b2 := H.out.2.2.lt
  have sz : (w.alloc (.cells #[.slice (some ⟨Bo, 0, none⟩) nl nl, .slice none 0 0, .slice (some ⟨Bv, 0, none⟩) n n, .slice none 0 0, .slice none 0 0] 44)).heap.size = w.heap.size + 1 := by simp
  generalize (w.alloc (.cells #[.slice (some ⟨Bo, 0, none⟩) nl nl, .slice none 0 0, .slice (some ⟨Bv, 0, none⟩) n n, .slice none 0 0, .slice none 0 0] 44)) = w1 at hs a1 a2 kp sz ⊢
  have E : HE w1 w1 w.heap.size Bo Bv nl n len L (.slice none 0 0) (.slice none 0 0) := ⟨by omega, hs, a1, a2, fun _ _ _ _ => rfl, rfl, rfl, rfl, Nat.le_refl _⟩
  refine (huff_any w1 w.heap.size Bo Bv nl n len L mb H.out.1 E).mono ?_
  rintro e w' ⟨d, k, p1, p2, p3, p4, rfl, p5, p6, p7, p8, p9, p10⟩
  have R : Hid (ZPost w Bo nl n len L mb (.returned (.bool (decide (k = n)))) w') :=
    ⟨d, k, p1, p2, p3, p4, rfl, p5, ⟨p7.trans kp.os, p8.trans kp.tape, p9.trans kp.output, by omega, fun j h1 h2 => (p6 j (by omega) h2 (by omega)).trans (kp.block j h1 h2)⟩⟩
  clear p1 p2 p3 p4 p5 p6 p7 p8 p9 p10 hs a1 a2 kp sz E
  go_wp2
  go_ret
  exact R.out
end Go.Proofs.Qxb6601138a.Hf
