import Derived.Test.Qxb6601138aNa
import Derived.Deep.CutBlock
namespace Go.Proofs.Qxb6601138a.Hf
open Go.RowKit Gw
set_option linter.unusedVariables false

theorem cloneB_opt (w : World) (a : Option Addr) (n c : Nat) (f : Nat → Int) (hn : n ≤ 65536) (hz : a = none → n = 0) (h : ∀ x, a = some x → ∀ i, i < n → w.cell? (x.add i) = some (.int .u8 (f i))) :
    Calls Try.prog 10 #[.slice a n c] w fun e w' => ∃ ao, e = .returned (.slice ao n n) ∧ (0 < n → ao = some ⟨w.heap.size, 0, none⟩ ∧ w'.rowIs w.heap.size 5 n (fun i => .int .u8 (f i))) ∧ Below w.heap.size w w' := by
  cases a with
  | none =>
    have := hz rfl
    subst this
    refine (cloneB_nil w 0 c).mono ?_
    rintro e w' ⟨rfl, rfl⟩
    exact ⟨none, rfl, fun h => absurd h (by omega), Below.refl _ _⟩
  | some x =>
    refine (cloneB_any x n c f w (by omega) (h x rfl)).mono ?_
    rintro e w' ⟨rfl, h1, h2, h3⟩
    exact ⟨_, rfl, fun _ => ⟨rfl, h1⟩, h2⟩
theorem cloneL_opt (w : World) (a : Option Addr) (c : Nat) :
    Calls Try.prog 11 #[.slice a 0 c] w fun e w' => ∃ av, e = .returned (.slice av 0 0) ∧ Below w.heap.size w w' := by
  cases a with
  | none =>
    refine (cloneL_nil w 0 c).mono ?_
    rintro e w' ⟨rfl, rfl⟩
    exact ⟨none, rfl, Below.refl _ _⟩
  | some x =>
    refine (cloneL_any x 0 c (fun _ => 0) w (by omega) (fun i hi => by omega)).mono ?_
    rintro e w' ⟨rfl, h1, h2, h3⟩
    exact ⟨_, rfl, h2⟩
theorem on_below {B : Nat} {w w' w'' : World} (h : Below w.heap.size w w') (h2 : Below w'.heap.size w' w'') : Below w.heap.size w w'' :=
  h.trans ⟨h2.os, h2.tape, h2.output, h2.size, fun k hk => h2.block k (Nat.lt_of_lt_of_le hk h.size)⟩
set_option maxRecDepth 100000 in
set_option maxHeartbeats 16000000 in
theorem merge_zero (a0 : Option Addr) (nl c0 : Nat) (z0 : List Int) (a1 : Option Addr) (c1 : Nat) (M : Nat) (w : World) (h0 : IsRowH .u8 w a0 nl c0 z0) (p1 : ¬ (nl : Int) > 65536) (p3 : ¬ (M : Int) < 1) (p4 : ¬ (M : Int) > 255) :
    Calls Try.prog 6 #[.slice a0 nl c0, .slice a1 0 c1, .int .i64 (M : Int)] w fun e w' => OK w e w' := by
  have s0 := h0.small
  have H0 : Hid (IsRowH .u8 w a0 nl c0 z0) := h0
  clear h0
  obtain ⟨f0, hfd⟩ : ∃ f0 : Nat → Int, (fun i => z0.getD i 0) = f0 := ⟨_, rfl⟩
  have C0 : Hid ((a0 = none → nl = 0) ∧ (∀ x, a0 = some x → ∀ i, i < nl → w.cell? (x.add i) = some (.int .u8 (f0 i))) ∧ (0 < nl → ∃ b o, a0 = some ⟨b, o, none⟩ ∧ b < w.heap.size) ∧ ∀ i, i < nl → 0 ≤ f0 i ∧ f0 i ≤ 255) := by
    rw [← hfd]
    refine ⟨fun e => ?_, fun x e i hi => ?_, fun hl => ?_, fun i hi => ?_⟩
    · rcases H0.out with ⟨_, h, _, _⟩ | ⟨x, e2, _⟩
      · exact h
      · rw [e] at e2; cases e2
    · rcases H0.out with ⟨_, h, _, _⟩ | ⟨x2, e2, h1, h2, h3, h4, h5⟩
      · omega
      · rw [e] at e2; cases e2
        exact h4 i (by omega)
    · obtain ⟨b, o, e, hb, _, _⟩ := H0.out.plain hl
      exact ⟨b, o, e, hb⟩
    · obtain ⟨b, o, e, hb, _, hr⟩ := H0.out.plain (by omega)
      exact bounds_u8 (hr i hi)
  clear hfd H0
  go_enter Try.func6, Try.ntmps6
  go_wp2_with fail
  refine (bytes24 _ _ _ _ _ _ _ _ s0 (by omega)).mono ?_
  rintro e w' ⟨he, hw⟩
  obtain rfl : w = w' := hw.symm
  clear hw
  rcases he with rfl | rfl
  · go_upto_region 10 with fail
    go_cut [40] from 33 to 40 (fun c wx => c = .bool false ∧ wx = w)
    case first =>
      by_cases m1 : (M : Int) < 12
      · rcases (show M = 1 ∨ M = 2 ∨ M = 3 ∨ M = 4 ∨ M = 5 ∨ M = 6 ∨ M = 7 ∨ M = 8 ∨ M = 9 ∨ M = 10 ∨ M = 11 by omega) with rfl | rfl | rfl | rfl | rfl | rfl | rfl | rfl | rfl | rfl | rfl
        · have cv : (0 : Int) ≤ 2 := by omega
          go_wp2
          all_goals (
            go_meet
            first
              | exact ⟨rfl, rfl⟩
              | exact ⟨congrArg Value.bool (decide_eq_false (by omega)), rfl⟩)
        · have cv : (0 : Int) ≤ 4 := by omega
          go_wp2
          all_goals (
            go_meet
            first
              | exact ⟨rfl, rfl⟩
              | exact ⟨congrArg Value.bool (decide_eq_false (by omega)), rfl⟩)
        · have cv : (0 : Int) ≤ 8 := by omega
          go_wp2
          all_goals (
            go_meet
            first
              | exact ⟨rfl, rfl⟩
              | exact ⟨congrArg Value.bool (decide_eq_false (by omega)), rfl⟩)
        · have cv : (0 : Int) ≤ 16 := by omega
          go_wp2
          all_goals (
            go_meet
            first
              | exact ⟨rfl, rfl⟩
              | exact ⟨congrArg Value.bool (decide_eq_false (by omega)), rfl⟩)
        · have cv : (0 : Int) ≤ 32 := by omega
          go_wp2
          all_goals (
            go_meet
            first
              | exact ⟨rfl, rfl⟩
              | exact ⟨congrArg Value.bool (decide_eq_false (by omega)), rfl⟩)
        · have cv : (0 : Int) ≤ 64 := by omega
          go_wp2
          all_goals (
            go_meet
            first
              | exact ⟨rfl, rfl⟩
              | exact ⟨congrArg Value.bool (decide_eq_false (by omega)), rfl⟩)
        · have cv : (0 : Int) ≤ 128 := by omega
          go_wp2
          all_goals (
            go_meet
            first
              | exact ⟨rfl, rfl⟩
              | exact ⟨congrArg Value.bool (decide_eq_false (by omega)), rfl⟩)
        · have cv : (0 : Int) ≤ 256 := by omega
          go_wp2
          all_goals (
            go_meet
            first
              | exact ⟨rfl, rfl⟩
              | exact ⟨congrArg Value.bool (decide_eq_false (by omega)), rfl⟩)
        · have cv : (0 : Int) ≤ 512 := by omega
          go_wp2
          all_goals (
            go_meet
            first
              | exact ⟨rfl, rfl⟩
              | exact ⟨congrArg Value.bool (decide_eq_false (by omega)), rfl⟩)
        · have cv : (0 : Int) ≤ 1024 := by omega
          go_wp2
          all_goals (
            go_meet
            first
              | exact ⟨rfl, rfl⟩
              | exact ⟨congrArg Value.bool (decide_eq_false (by omega)), rfl⟩)
        · have cv : (0 : Int) ≤ 2048 := by omega
          go_wp2
          all_goals (
            go_meet
            first
              | exact ⟨rfl, rfl⟩
              | exact ⟨congrArg Value.bool (decide_eq_false (by omega)), rfl⟩)
      · go_wp2
        go_meet
        exact ⟨rfl, rfl⟩
    case rest =>
      obtain ⟨rfl, hwc⟩ := hcut
      obtain rfl : w = wc := hwc.symm
      clear hwc
      go_wp2_with fail
      refine (sorted_nil w a1 c1 nl).mono ?_
      rintro e w' ⟨rfl, hw⟩
      obtain rfl : w = w' := hw.symm
      clear hw
      go_wp2_with fail
      refine (distinct_nil w a1 c1 nl (by omega)).mono ?_
      rintro e w1 ⟨rfl, l1⟩
      have Q1 : Hid (Below w.heap.size w w1 ∧ (∀ x, a0 = some x → ∀ i, i < nl → w1.cell? (x.add i) = some (.int .u8 (f0 i)))) := by
        refine ⟨l1, fun x e i hi => ?_⟩
        have h1 := C0.out.2.1 x e i hi
        obtain ⟨b, o, e2, hb⟩ := C0.out.2.2.1 (by omega)
        rw [e] at e2
        cases e2
        rw [add_plain'] at h1 ⊢
        exact (l1.cell (p := ⟨b, o + i, none⟩) hb).trans h1
      clear l1
      go_wp2_with fail
      refine (total_nil w1 a1 c1).mono ?_
      rintro e w' ⟨rfl, hw⟩
      obtain rfl : w1 = w' := hw.symm
      clear hw
      go_wp2_with fail
      refine (cloneB_opt w1 a0 nl c0 f0 (by omega) C0.out.1 Q1.out.2).mono ?_
      rintro e w2 ⟨ao, rfl, r2, l2⟩
      obtain ⟨B, hB⟩ : ∃ B, w1.heap.size = B := ⟨_, rfl⟩
      have D2 : Hid (Below w.heap.size w w2 ∧ (0 < nl → ao = some ⟨B, 0, none⟩ ∧ w2.rowIs B 5 nl (fun i => .int .u8 (f0 i)))) := ⟨on_below (B := 0) Q1.out.1 l2, by rw [← hB]; exact r2⟩
      clear r2 l2 Q1 hB
      go_wp2_with fail
      refine (cloneL_opt w2 a1 c1).mono ?_
      rintro e w3 ⟨av, rfl, l3⟩
      have D3 : Hid (Below w.heap.size w w3 ∧ (0 < nl → ao = some ⟨B, 0, none⟩ ∧ w3.rowIs B 5 nl (fun i => .int .u8 (f0 i)))) := ⟨on_below (B := 0) D2.out.1 l3, fun h => ⟨(D2.out.2 h).1, row_below (D2.out.2 h).2 l3 (D2.out.2 h).2.lt⟩⟩
      clear l3 D2
      go_wp2_with fail
      refine (cloneB_opt w3 ao nl nl f0 (by omega) (fun e => ?_) (fun x e i hi => ?_)).mono ?_
      · rcases Nat.eq_zero_or_pos nl with h | h
        · exact h
        · rw [(D3.out.2 h).1] at e; cases e
      · rw [(D3.out.2 (by omega)).1] at e; cases e
        rw [add_plain', Nat.zero_add]
        exact (D3.out.2 (by omega)).2.cell hi
      rintro e w4 ⟨ao2, rfl, r4, l4⟩
      obtain ⟨Bo, hBo⟩ : ∃ Bo, w3.heap.size = Bo := ⟨_, rfl⟩
      have D4 : Hid (Below w.heap.size w w4 ∧ (0 < nl → ao = some ⟨B, 0, none⟩ ∧ w4.rowIs B 5 nl (fun i => .int .u8 (f0 i)) ∧ B ≠ Bo) ∧ (0 < nl → ao2 = some ⟨Bo, 0, none⟩ ∧ w4.rowIs Bo 5 nl (fun i => .int .u8 (f0 i))) ∧ w.heap.size ≤ Bo) :=
        ⟨on_below (B := 0) D3.out.1 l4, fun h => ⟨(D3.out.2 h).1, row_below (D3.out.2 h).2 l4 (D3.out.2 h).2.lt, by have := (D3.out.2 h).2.lt; omega⟩, by rw [← hBo]; exact r4, by rw [← hBo]; exact D3.out.1.size⟩
      clear r4 l4 D3 hBo
      have PPH : Hid (PP 0 nl M f0 (fun _ => 0)) := ⟨fun i hi => by omega, fun i hi => by omega, fun i j _ hj => by omega, C0.out.2.2.2, by show (0 : Int) ≤ _; omega, Nat.zero_le _, by omega, by omega⟩
      go_wp2_with fail
      refine (zpm_any w4 Bo nl 0 M ao2 av f0 (fun _ => 0) PPH (show Hid _ from D4.out.2.2.1) (show Hid _ from fun h => absurd h (by omega))).mono ?_
      rintro e w5 ⟨rfl, k, x, l, len', y1, y2, y3, y4, y5⟩
      have D5 : Hid (Below w.heap.size w w5 ∧ (0 < nl → ao = some ⟨B, 0, none⟩ ∧ ao2 = some ⟨Bo, 0, none⟩ ∧ w5.rowIs B 5 nl (fun i => .int .u8 (f0 i)) ∧ w5.rowIs Bo 5 nl (fun i => .int .u8 (len' i)))) :=
        ⟨D4.out.1.trans (y5.toBelow D4.out.2.2.2 D4.out.1.size), fun h => ⟨(D4.out.2.1 h).1, (D4.out.2.2.1 h).1, y5.row (D4.out.2.1 h).2.1 (D4.out.2.1 h).2.2, y1 h⟩⟩
      have D6 : Hid (∀ s, s < nl → f0 s = len' s) := fun s _ => (y2.off s (fun i hi => by omega)).symm
      clear y1 y2 y3 y4 y5 D4
      go_wp2_with fail
      refine (others_nil w5 ao ao2 av B Bo nl 0 f0 len' (by omega) (show Hid _ from D5.out.2) D6).mono ?_
      rintro e w6 ⟨rfl, l6⟩
      have D7 : Hid (Below w.heap.size w w6) := on_below (B := 0) D5.out.1 l6
      clear l6 D5 D6
      go_wp2
      go_loopw [9] (fun ri wr => ri = .int .i64 0 ∧ wr = w6) (fun _ _ => 0)
      case atStart => exact ⟨rfl, rfl⟩
      case round =>
        obtain ⟨rfl, hwr⟩ := hrel
        obtain rfl : w6 = wr := hwr.symm
        clear hwr
        go_wp2
        go_ret
        exact ⟨rfl, D7.out⟩
  · go_wp2
    go_ret
    exact ⟨rfl, Below.refl _ _⟩
end Go.Proofs.Qxb6601138a.Hf
