import Derived.Test.Qxb6601138aKe
import Derived.Deep.CutBlock
namespace Go.Proofs.Qxb6601138a.Hf
open Go.RowKit Gw
set_option linter.unusedVariables false

set_option maxRecDepth 100000 in
set_option maxHeartbeats 16000000 in
theorem complete_Kh (a0 : Option Addr) (nl c0 : Nat) (z0 : List Int) (a1 : Option Addr) (n c1 : Nat) (z1 : List Int) (M : Nat) (w : World) (h0 : IsRowH .u8 w a0 nl c0 z0) (h1 : IsRowH .u64 w a1 n c1 z1) (p1 : ¬ (nl : Int) > 65536) (p2 : ¬ (n : Int) > 4096) (p3 : ¬ (n : Int) < 2) (p4 : ¬ (M : Int) < 0) (p5 : ¬ (M : Int) > 255) (p6 : ¬ (M : Int) ≥ (n : Int) - 1) (m1 : (M : Int) < 12) :
    Calls Try.prog 4 #[.slice a0 nl c0, .slice a1 n c1, .int .i64 (M : Int)] w fun e w' => OK w e w' := by
  have s0 := h0.small
  have s1 := h1.small
  have H0 : Hid (IsRowH .u8 w a0 nl c0 z0 ∧ IsRowH .u64 w a1 n c1 z1) := ⟨h0, h1⟩
  clear h0 h1
  obtain ⟨b1, o1, rfl, hb1, hc1, hr1⟩ := H0.out.2.plain (by omega)
  obtain ⟨L, hLd⟩ : ∃ L : Nat → Int, (fun i => z1.getD i 0) = L := ⟨_, rfl⟩
  obtain ⟨f0, hfd⟩ : ∃ f0 : Nat → Int, (fun i => z0.getD i 0) = f0 := ⟨_, rfl⟩
  have C1 : Hid ((∀ i, i < n → w.cell? ⟨b1, o1 + i, none⟩ = some (.int .u64 (L i))) ∧ ∀ i, i < n → 0 ≤ L i ∧ L i ≤ 18446744073709551615) := by
    rw [← hLd]
    exact ⟨hc1, fun i hi => bounds_u64 (hr1 i hi)⟩
  have HF : Hid ((fun i => z0.getD i 0) = f0) := hfd
  clear hc1 hr1 hLd hfd
  go_enter Try.func4, Try.ntmps4
  go_wp2_with fail
  refine (bytes15 _ _ _ _ _ _ _ _ s0 s1).mono ?_
  rintro e w' ⟨he, hw⟩
  obtain rfl : w = w' := hw.symm
  clear hw
  rcases he with rfl | rfl
  · go_wp2_with fail
    refine (sorted_any w b1 o1 n c1 nl L (by omega) (by omega) C1.out.2 C1.out.1).mono ?_
    rintro e w0 ⟨ht, q, hq⟩
    have Q0 : Hid (w0 = w.drewN q) := hq
    clear hq
    rcases ht with ⟨rfl, hsr⟩ | ⟨rfl, hsr⟩
    · have hnl : 0 < nl := by have := (hsr 0 (by omega)).1; omega
      obtain ⟨b0, o0, rfl, hb0, hc0, hr0⟩ := H0.out.1.plain hnl
      have hLv : Lv n nl L := ⟨by omega, C1.out.2, fun i hi => (hsr i hi).1, fun i j hij hj => hsr.mono j i hij hj⟩
      have HL : Hid (Lv n nl L) := hLv
      clear hLv hsr
      have Q2 : Hid (w0.heap.size = w.heap.size ∧ Below w.heap.size w w0 ∧ (∀ i, i < n → w0.cell? ⟨b1, o1 + i, none⟩ = some (.int .u64 (L i))) ∧ ∀ i, i < nl → w0.cell? ⟨b0, o0 + i, none⟩ = some (.int .u8 (f0 i))) := by
        rw [Q0.out, ← HF.out]
        exact ⟨rfl, below_drewN (Below.refl _ _) q, C1.out.1, hc0⟩
      clear hc0 hr0 Q0 HF H0
      go_wp2_with fail
      refine (distinct_any w0 b1 o1 n c1 nl L (by omega) (by omega) (by have := Q2.out.1; omega) C1.out.2 HL.out.sy Q2.out.2.2.1).mono ?_
      rintro e w1 ⟨ht, hbl⟩
      have Q1 : Hid (Below w.heap.size w w1 ∧ (∀ i, i < n → w1.cell? ⟨b1, o1 + i, none⟩ = some (.int .u64 (L i))) ∧ ∀ i, i < nl → w1.cell? ⟨b0, o0 + i, none⟩ = some (.int .u8 (f0 i))) := by
        have e := Q2.out.1
        rw [e] at hbl
        exact ⟨Q2.out.2.1.trans hbl, fun i hi => (hbl.cell (p := ⟨b1, o1 + i, none⟩) hb1).trans (Q2.out.2.2.1 i hi), fun i hi => (hbl.cell (p := ⟨b0, o0 + i, none⟩) hb0).trans (Q2.out.2.2.2 i hi)⟩
      clear hbl Q2 C1
      rcases ht with ⟨rfl, hds⟩ | ⟨rfl, hds⟩
      · have HDS : Hid (Dst n L) := hds
        clear hds
        obtain ⟨B, hB⟩ : ∃ B, w1.heap.size = B := ⟨_, rfl⟩
        have hwB : w.heap.size ≤ B := by rw [← hB]; exact Q1.out.1.size
        go_wp2_with fail
        refine (cloneB_any _ nl c0 f0 w1 (by omega) (fun i hi => by rw [add_plain']; exact Q1.out.2.2 i hi)).mono ?_
        rintro e w2 ⟨rfl, r2, l2, e2⟩
        rw [hB] at r2 l2 e2 ⊢
        have D2 : Hid (w2.rowIs B 5 nl (fun i => .int .u8 (f0 i)) ∧ Below w.heap.size w w2 ∧ ∀ i, i < n → w2.cell? ⟨b1, o1 + i, none⟩ = some (.int .u64 (L i))) :=
          ⟨r2, Q1.out.1.trans ⟨l2.os, l2.tape, l2.output, l2.size, fun k hk => l2.block k (by omega)⟩, fun i hi => (l2.cell (p := ⟨b1, o1 + i, none⟩) (show b1 < B by omega)).trans (Q1.out.2.1 i hi)⟩
        clear r2 l2 Q1 hB
        go_wp2_with fail
        refine (cloneL_any _ n c1 L w2 (by omega) (fun i hi => by rw [add_plain']; exact D2.out.2.2 i hi)).mono ?_
        rintro e w3 ⟨rfl, r3, l3, e3⟩
        rw [e2] at r3 l3 e3 ⊢
        have D3 : Hid (w3.rowIs B 5 nl (fun i => .int .u8 (f0 i)) ∧ w3.rowIs (B + 1) 28 n (fun i => .int .u64 (L i)) ∧ Below w.heap.size w w3) :=
          ⟨row_below D2.out.1 l3 (by omega), r3, D2.out.2.1.trans ⟨l3.os, l3.tape, l3.output, l3.size, fun k hk => l3.block k (by omega)⟩⟩
        clear r3 l3 D2 e2
        go_wp2_with fail
        refine (cloneB_any _ nl nl f0 w3 (by omega) (fun i hi => by rw [add_plain', Nat.zero_add]; exact D3.out.1.cell hi)).mono ?_
        rintro e w4 ⟨rfl, r4, l4, e4⟩
        rw [e3] at r4 l4 e4 ⊢
        have D4 : Hid (w4.rowIs B 5 nl (fun i => .int .u8 (f0 i)) ∧ w4.rowIs (B + 1) 28 n (fun i => .int .u64 (L i)) ∧ w4.rowIs (B + 2) 5 nl (fun i => .int .u8 (f0 i)) ∧ Below w.heap.size w w4) :=
          ⟨row_below D3.out.1 l4 (by omega), row_below D3.out.2.1 l4 (by omega), r4, D3.out.2.2.trans ⟨l4.os, l4.tape, l4.output, l4.size, fun k hk => l4.block k (by omega)⟩⟩
        clear r4 l4 D3 e3
        go_wp2_with fail
        refine (zhuff_any w4 (B + 2) (B + 1) nl n f0 L (M : Int) HL.out (by omega) D4.out.2.2.1 D4.out.2.1).mono ?_
        rintro e w5 ⟨d, k, y1, y2, y3, y4, rfl, y5, y6⟩
        rw [lim_eq (M : Int) (by omega) (by omega)] at y3 y4
        have D5 : Hid (w5.rowIs B 5 nl (fun i => .int .u8 (f0 i)) ∧ w5.rowIs (B + 1) 28 n (fun i => .int .u64 (L i)) ∧ Below w.heap.size w w5) :=
          ⟨y6.row D4.out.1 (by omega), y6.row D4.out.2.1 (by omega), D4.out.2.2.2.trans (y6.toBelow (by omega) D4.out.2.2.2.size)⟩
        clear D4 y6
        by_cases hkn : k = n
        · subst hkn
          have co := co_of HL.out y1 y3
          obtain ⟨D, hD⟩ : ∃ D, dl (qs k (lwt L) (k - 1)).lp d = D := ⟨_, rfl⟩
          rw [hD] at co y5
          have cnt := kraft_count co.krf
          have D6 : Hid (CO k M L D ∧ w5.rowIs (B + 2) 5 nl (fun i => .int .u8 (asg f0 (fun i => sN (L i)) D k i))) := ⟨co, y5⟩
          clear co hD y1 y2 y3 y4 y5
          rw [decide_eq_true rfl]
          have k1 := run_make_row' 31 3 (.int .i64 0) 8 Try.underlying31 info3 rfl .i64 .i64 k (by omega) (by omega)
          have K1 : Hid (∀ w, (Instr.makeSlice 31 (.int .i64 (k : Int)) (.int .i64 (k : Int))).run Try.prog w = .ok (.slice (some ⟨w.heap.size, 0, none⟩) k k) (w.alloc (.cells (madeCells #[.int .i64 0] k) 3))) := k1
          clear k1
          go_upto_region 22 with fail
          go_cut [71] from 61 to 71 (fun c wx => c = .bool false ∧ wx = w5)
          case first =>
            rcases (show M = 0 ∨ M = 1 ∨ M = 2 ∨ M = 3 ∨ M = 4 ∨ M = 5 ∨ M = 6 ∨ M = 7 ∨ M = 8 ∨ M = 9 ∨ M = 10 ∨ M = 11 by omega) with rfl | rfl | rfl | rfl | rfl | rfl | rfl | rfl | rfl | rfl | rfl | rfl
            · have cv : (k : Int) ≤ 1 := cnt
              go_wp2
              all_goals (
                go_meet
                exact ⟨rfl, rfl⟩)
            · have cv : (k : Int) ≤ 2 := cnt
              go_wp2
              all_goals (
                go_meet
                exact ⟨rfl, rfl⟩)
            · have cv : (k : Int) ≤ 4 := cnt
              go_wp2
              all_goals (
                go_meet
                exact ⟨rfl, rfl⟩)
            · have cv : (k : Int) ≤ 8 := cnt
              go_wp2
              all_goals (
                go_meet
                exact ⟨rfl, rfl⟩)
            · have cv : (k : Int) ≤ 16 := cnt
              go_wp2
              all_goals (
                go_meet
                exact ⟨rfl, rfl⟩)
            · have cv : (k : Int) ≤ 32 := cnt
              go_wp2
              all_goals (
                go_meet
                exact ⟨rfl, rfl⟩)
            · have cv : (k : Int) ≤ 64 := cnt
              go_wp2
              all_goals (
                go_meet
                exact ⟨rfl, rfl⟩)
            · have cv : (k : Int) ≤ 128 := cnt
              go_wp2
              all_goals (
                go_meet
                exact ⟨rfl, rfl⟩)
            · have cv : (k : Int) ≤ 256 := cnt
              go_wp2
              all_goals (
                go_meet
                exact ⟨rfl, rfl⟩)
            · have cv : (k : Int) ≤ 512 := cnt
              go_wp2
              all_goals (
                go_meet
                exact ⟨rfl, rfl⟩)
            · have cv : (k : Int) ≤ 1024 := cnt
              go_wp2
              all_goals (
                go_meet
                exact ⟨rfl, rfl⟩)
            · have cv : (k : Int) ≤ 2048 := cnt
              go_wp2
              all_goals (
                go_meet
                exact ⟨rfl, rfl⟩)
          case rest =>
            obtain ⟨rfl, hwc⟩ := hcut
            obtain rfl : w5 = wc := hwc.symm
            go_wp2_with fail
            refine (others_any w5 B (B + 2) (B + 1) k nl f0 _ L (by omega) (by omega) HL.out.rng HL.out.sy D5.out.1 D6.out.2 D5.out.2.1 (fun s _ h => (asg_other h).symm)).mono ?_
            rintro e w6 ⟨rfl, l6⟩
            have D7 : Hid (w6.rowIs (B + 1) 28 k (fun i => .int .u64 (L i)) ∧ w6.rowIs (B + 2) 5 nl (fun i => .int .u8 (asg f0 (fun i => sN (L i)) D k i)) ∧ Below w.heap.size w w6) :=
              ⟨row_below D5.out.2.1 l6 D5.out.2.1.lt, row_below D6.out.2 l6 D6.out.2.lt, D5.out.2.2.trans ⟨l6.os, l6.tape, l6.output, l6.size, fun j hj => l6.block j (Nat.lt_of_lt_of_le hj D5.out.2.2.size)⟩⟩
            have hco := D6.out.1
            have CC : Hid (CO k M L D) := hco
            clear l6 D5 D6 hco
            have k1 := K1.out
            go_wp2
            clear k1
            obtain ⟨Bl, hBl⟩ : ∃ Bl, w6.heap.size = Bl := ⟨_, rfl⟩
            simp only [hBl]
            have D8 : Hid (Bl ≠ B + 1 ∧ Bl ≠ B + 2 ∧ w.heap.size ≤ Bl) := by
              have a1 := D7.out.1.lt
              have a2 := D7.out.2.1.lt
              have a3 := D7.out.2.2.size
              exact ⟨by omega, by omega, by omega⟩
            go_loopw [11] (fun ri wr => ∃ i : Nat, i ≤ k ∧ ri = .int .i64 (i : Int) ∧ wr.rowIs Bl 3 k (fun j => .int .i64 (if j < i then (D j : Int) else 0)) ∧ wr.rowIs (B + 1) 28 k (fun i => .int .u64 (L i)) ∧ wr.rowIs (B + 2) 5 nl (fun i => .int .u8 (asg f0 (fun i => sN (L i)) D k i)) ∧ Below w.heap.size w wr) (fun ri _ => k - (intOf ri).toNat)
            case atStart =>
              refine ⟨0, by omega, rfl, ?_, D7.out.1.alloc _, D7.out.2.1.alloc _, D7.out.2.2.alloc D7.out.2.2.size _⟩
              have h := World.rowIs_made w6 (.int .i64 0) k 3
              rw [hBl] at h
              exact h.congr (fun j hj => by rw [if_neg (by omega)])
            case round =>
              clear D7
              obtain ⟨i, hi, rfl, hr, hv, ho, hb⟩ := hrel
              have R : Hid (wr.rowIs Bl 3 k (fun j => .int .i64 (if j < i then (D j : Int) else 0)) ∧ wr.rowIs (B + 1) 28 k (fun i => .int .u64 (L i)) ∧ wr.rowIs (B + 2) 5 nl (fun i => .int .u8 (asg f0 (fun i => sN (L i)) D k i)) ∧ Below w.heap.size w wr) := ⟨hr, hv, ho, hb⟩
              clear hr hv ho hb
              by_cases hik : i < k
              · have g1 : (i : Int) < (k : Int) := by omega
                have g2 := HL.out.sy i hik
                have g3 : ((sN (L i) : Nat) : Int) < (nl : Int) := by omega
                have l1 := (HL.out.rng i hik).1
                have l2 := (HL.out.rng i hik).2
                have u1 := (CC.out.rng i hik).2
                have f1 := R.out.2.1.cell hik
                have f2 : wr.cell? ⟨B + 2, sN (L i), none⟩ = some (.int .u8 (D i : Int)) := by
                  rw [R.out.2.2.1.cell g2, asg_sym HDS.out hik, show (D i : Int) % 256 = (D i : Int) by omega]
                have f3 := R.out.1.cell hik
                have f4 := R.out.1.frozen i
                have NX : Hid ((wr.setCell ⟨Bl, i, none⟩ (.int .i64 (D i : Int))).rowIs Bl 3 k (fun j => .int .i64 (if j < i + 1 then (D j : Int) else 0)) ∧ (wr.setCell ⟨Bl, i, none⟩ (.int .i64 (D i : Int))).rowIs (B + 1) 28 k (fun i => .int .u64 (L i)) ∧ (wr.setCell ⟨Bl, i, none⟩ (.int .i64 (D i : Int))).rowIs (B + 2) 5 nl (fun i => .int .u8 (asg f0 (fun i => sN (L i)) D k i)) ∧ Below w.heap.size w (wr.setCell ⟨Bl, i, none⟩ (.int .i64 (D i : Int)))) := by
                  refine ⟨(R.out.1.set i _).congr (fun j hj => ?_), R.out.2.1.setOther (show B + 1 ≠ Bl from fun e => D8.out.1 e.symm) _, R.out.2.2.1.setOther (show B + 2 ≠ Bl from fun e => D8.out.2.1 e.symm) _, R.out.2.2.2.setCell D8.out.2.2 _⟩
                  by_cases e : j = i
                  · subst e; rw [if_pos rfl, if_pos (by omega)]
                  · rw [if_neg e]
                    by_cases e2 : j < i
                    · rw [if_pos e2, if_pos (by omega)]
                    · rw [if_neg e2, if_neg (by omega)]
                go_wp2_with (go_at_call 13; refine (sym13 _ l1 l2 _).mono ?_; rintro e w' ⟨rfl, rfl⟩)
                go_roundw
                case rel => exact ⟨i + 1, by omega, by go_num, NX.out.1, NX.out.2.1, NX.out.2.2.1, NX.out.2.2.2⟩
                case measure => simp [intOf]; omega
              · have g1 : ¬ (i : Int) < (k : Int) := by omega
                have R2 : Hid (wr.rowIs Bl 3 k (fun j => .int .i64 (D j : Int)) ∧ wr.rowIs (B + 1) 28 k (fun i => .int .u64 (L i)) ∧ Below w.heap.size w wr) :=
                  ⟨R.out.1.congr (fun j hj => by rw [if_pos (by omega)]), R.out.2.1, R.out.2.2.2⟩
                clear R
                go_wp2_with fail
                refine (kraft_any wr Bl k M D (by omega) (by omega) CC.out.rng CC.out.krf R2.out.1).mono ?_
                rintro e w7 ⟨rfl, l7⟩
                have R3 : Hid (w7.rowIs Bl 3 k (fun j => .int .i64 (D j : Int)) ∧ w7.rowIs (B + 1) 28 k (fun i => .int .u64 (L i)) ∧ Below w.heap.size w w7) :=
                  ⟨row_below R2.out.1 l7 R2.out.1.lt, row_below R2.out.2.1 l7 R2.out.2.1.lt, R2.out.2.2.trans ⟨l7.os, l7.tape, l7.output, l7.size, fun j hj => l7.block j (Nat.lt_of_lt_of_le hj R2.out.2.2.size)⟩⟩
                clear l7 R2
                go_wp2_with fail
                refine (lighter_any w7 (B + 1) Bl k L D (by omega) HL.out.rng (fun i hi => by have := (CC.out.rng i hi).2; omega) CC.out.anti R3.out.2.1 R3.out.1).mono ?_
                rintro e w8 ⟨rfl, l8⟩
                have R4 : Hid (Below w.heap.size w w8) := R3.out.2.2.trans ⟨l8.os, l8.tape, l8.output, l8.size, fun j hj => l8.block j (Nat.lt_of_lt_of_le hj R3.out.2.2.size)⟩
                clear l8 R3
                go_wp2
                go_ret
                exact ⟨rfl, R4.out⟩
        · have hk2 : (M : Int) < (n : Int) - 1 := by
            have h1 := y4 (by omega)
            obtain ⟨e1, e2, tq⟩ := qs_fin HL.out.n2.1 HL.out.srt HL.out.pos
            have h2 := (dl_le tq y1 (show k < n by omega)).2
            omega
          rw [decide_eq_false hkn]
          clear y1 y2 y3 y4 y5
          go_upto_region 22 with fail
          go_cut [71] from 61 to 71 (fun c wx => c = .bool false ∧ wx = w5)
          case first =>
            rcases (show M = 0 ∨ M = 1 ∨ M = 2 ∨ M = 3 ∨ M = 4 ∨ M = 5 ∨ M = 6 ∨ M = 7 ∨ M = 8 ∨ M = 9 ∨ M = 10 ∨ M = 11 by omega) with rfl | rfl | rfl | rfl | rfl | rfl | rfl | rfl | rfl | rfl | rfl | rfl
            · go_wp2
              all_goals (
                go_meet
                exact ⟨rfl, rfl⟩)
            · go_wp2
              all_goals (
                go_meet
                exact ⟨rfl, rfl⟩)
            · go_wp2
              all_goals (
                go_meet
                exact ⟨rfl, rfl⟩)
            · go_wp2
              all_goals (
                go_meet
                exact ⟨rfl, rfl⟩)
            · go_wp2
              all_goals (
                go_meet
                exact ⟨rfl, rfl⟩)
            · go_wp2
              all_goals (
                go_meet
                exact ⟨rfl, rfl⟩)
            · go_wp2
              all_goals (
                go_meet
                exact ⟨rfl, rfl⟩)
            · go_wp2
              all_goals (
                go_meet
                exact ⟨rfl, rfl⟩)
            · go_wp2
              all_goals (
                go_meet
                exact ⟨rfl, rfl⟩)
            · go_wp2
              all_goals (
                go_meet
                exact ⟨rfl, rfl⟩)
            · go_wp2
              all_goals (
                go_meet
                exact ⟨rfl, rfl⟩)
            · go_wp2
              all_goals (
                go_meet
                exact ⟨rfl, rfl⟩)
          case rest =>
            obtain ⟨rfl, hwc⟩ := hcut
            obtain rfl : w5 = wc := hwc.symm
            go_wp2
            go_ret
            exact ⟨rfl, D5.out.2.2⟩
      · go_wp2
        go_ret
        exact ⟨rfl, Q1.out.1⟩
    · go_wp2
      go_ret
      exact ⟨rfl, by rw [Q0.out]; exact below_drewN (Below.refl _ _) q⟩
  · go_wp2
    go_ret
    exact ⟨rfl, Below.refl _ _⟩
end Go.Proofs.Qxb6601138a.Hf
