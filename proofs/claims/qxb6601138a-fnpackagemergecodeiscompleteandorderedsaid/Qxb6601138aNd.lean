import Derived.Test.Qxb6601138aNa
import Derived.Deep.CutBlock
namespace Go.Proofs.Qxb6601138a.Hf
open Go.RowKit Gw
set_option linter.unusedVariables false

/-- The lengths' rises, the first i of them laid. -/
structure INC (w wr : World) (B Bl nl n : Nat) (f0 L len' : Nat → Int) (l : Nat → Nat) (i : Nat) : Prop where
  ic : wr.rowIs Bl 3 n (fun j => .int .i64 (if j < i then (l j : Int) else 0))
  ln : wr.rowIs B 5 nl (fun i => .int .u8 (f0 i))
  lv : wr.rowIs (B + 1) 28 n (fun i => .int .u64 (L i))
  ou : wr.rowIs (B + 2) 5 nl (fun i => .int .u8 (len' i))
  bl : Below w.heap.size w wr
theorem INC.step {w wr : World} {B Bl nl n : Nat} {f0 L len' : Nat → Int} {l : Nat → Nat} {i : Nat} (h : INC w wr B Bl nl n f0 L len' l i) (d : Bl ≠ B ∧ Bl ≠ B + 1 ∧ Bl ≠ B + 2 ∧ w.heap.size ≤ Bl) : INC w (wr.setCell ⟨Bl, i, none⟩ (.int .i64 (l i : Int))) B Bl nl n f0 L len' l (i + 1) := by
  refine ⟨(h.ic.set i _).congr (fun j hj => ?_), h.ln.setOther (show B ≠ Bl from fun e => d.1 e.symm) _, h.lv.setOther (show B + 1 ≠ Bl from fun e => d.2.1 e.symm) _, h.ou.setOther (show B + 2 ≠ Bl from fun e => d.2.2.1 e.symm) _, h.bl.setCell d.2.2.2 _⟩
  by_cases e : j = i
  · subst e; rw [if_pos rfl, if_pos (by omega)]
  · rw [if_neg e]
    by_cases e2 : j < i
    · rw [if_pos e2, if_pos (by omega)]
    · rw [if_neg e2, if_neg (by omega)]
theorem INC.drewN {w wr : World} {B Bl nl n : Nat} {f0 L len' : Nat → Int} {l : Nat → Nat} {i : Nat} (h : INC w wr B Bl nl n f0 L len' l i) (k : Nat) : INC w (wr.drewN k) B Bl nl n f0 L len' l i := ⟨h.ic, h.ln, h.lv, h.ou, below_drewN h.bl k⟩
set_option maxRecDepth 100000 in
set_option maxHeartbeats 16000000 in
theorem merge_two (a0 : Option Addr) (nl c0 : Nat) (z0 : List Int) (a1 : Option Addr) (n c1 : Nat) (z1 : List Int) (M : Nat) (w : World) (h0 : IsRowH .u8 w a0 nl c0 z0) (h1 : IsRowH .u64 w a1 n c1 z1) (p1 : ¬ (nl : Int) > 65536) (p2 : ¬ (n : Int) > 4096) (p3 : ¬ (M : Int) < 1) (p4 : ¬ (M : Int) > 255) (cnt : Hid ((n : Int) ≤ ((2 ^ M : Nat) : Int))) (p5 : 2 ≤ n) :
    Calls Try.prog 6 #[.slice a0 nl c0, .slice a1 n c1, .int .i64 (M : Int)] w fun e w' => OK w e w' := by
  have s0 := h0.small
  have s1 := h1.small
  have H0 : Hid (IsRowH .u8 w a0 nl c0 z0 ∧ IsRowH .u64 w a1 n c1 z1) := ⟨h0, h1⟩
  clear h0 h1
  obtain ⟨b1, o1, rfl, hb1, hc1, hr1⟩ := H0.out.2.plain (by omega)
  obtain ⟨L, hLd⟩ : ∃ L : Nat → Int, (fun i => z1.getD i 0) = L := ⟨_, rfl⟩
  obtain ⟨f0, hfd⟩ : ∃ f0 : Nat → Int, (fun i => z0.getD i 0) = f0 := ⟨_, rfl⟩
  have C1 : Hid ((∀ i, i < n → w.cell? ⟨b1, o1 + i, none⟩ = some (.int .u64 (L i))) ∧ ∀ i, i < n → 0 ≤ L i ∧ L i ≤ 18446744073709551615) := by
    rw [← hLd]
    exact ⟨hc1, fun i hi => bounds_u64 (hr1 i hi)⟩
  have HF : Hid ((fun i => z0.getD i 0) = f0) := hfd
  clear hc1 hr1 hLd hfd
  go_enter Try.func6, Try.ntmps6
  go_wp2_with fail
  refine (bytes24 _ _ _ _ _ _ _ _ s0 s1).mono ?_
  rintro e w' ⟨he, hw⟩
  obtain rfl : w = w' := hw.symm
  clear hw
  rcases he with rfl | rfl
  · go_upto_region 10 with fail
    go_cut [40] from 33 to 40 (fun c wx => c = .bool false ∧ wx = w)
    case first =>
      by_cases m1 : (M : Int) < 12
      · rcases (show M = 1 ∨ M = 2 ∨ M = 3 ∨ M = 4 ∨ M = 5 ∨ M = 6 ∨ M = 7 ∨ M = 8 ∨ M = 9 ∨ M = 10 ∨ M = 11 by omega) with rfl | rfl | rfl | rfl | rfl | rfl | rfl | rfl | rfl | rfl | rfl
        · have cv : (n : Int) ≤ 2 := cnt.out
          go_wp2
          all_goals (
            go_meet
            first
              | exact ⟨rfl, rfl⟩
              | exact ⟨congrArg Value.bool (decide_eq_false (by omega)), rfl⟩)
        · have cv : (n : Int) ≤ 4 := cnt.out
          go_wp2
          all_goals (
            go_meet
            first
              | exact ⟨rfl, rfl⟩
              | exact ⟨congrArg Value.bool (decide_eq_false (by omega)), rfl⟩)
        · have cv : (n : Int) ≤ 8 := cnt.out
          go_wp2
          all_goals (
            go_meet
            first
              | exact ⟨rfl, rfl⟩
              | exact ⟨congrArg Value.bool (decide_eq_false (by omega)), rfl⟩)
        · have cv : (n : Int) ≤ 16 := cnt.out
          go_wp2
          all_goals (
            go_meet
            first
              | exact ⟨rfl, rfl⟩
              | exact ⟨congrArg Value.bool (decide_eq_false (by omega)), rfl⟩)
        · have cv : (n : Int) ≤ 32 := cnt.out
          go_wp2
          all_goals (
            go_meet
            first
              | exact ⟨rfl, rfl⟩
              | exact ⟨congrArg Value.bool (decide_eq_false (by omega)), rfl⟩)
        · have cv : (n : Int) ≤ 64 := cnt.out
          go_wp2
          all_goals (
            go_meet
            first
              | exact ⟨rfl, rfl⟩
              | exact ⟨congrArg Value.bool (decide_eq_false (by omega)), rfl⟩)
        · have cv : (n : Int) ≤ 128 := cnt.out
          go_wp2
          all_goals (
            go_meet
            first
              | exact ⟨rfl, rfl⟩
              | exact ⟨congrArg Value.bool (decide_eq_false (by omega)), rfl⟩)
        · have cv : (n : Int) ≤ 256 := cnt.out
          go_wp2
          all_goals (
            go_meet
            first
              | exact ⟨rfl, rfl⟩
              | exact ⟨congrArg Value.bool (decide_eq_false (by omega)), rfl⟩)
        · have cv : (n : Int) ≤ 512 := cnt.out
          go_wp2
          all_goals (
            go_meet
            first
              | exact ⟨rfl, rfl⟩
              | exact ⟨congrArg Value.bool (decide_eq_false (by omega)), rfl⟩)
        · have cv : (n : Int) ≤ 1024 := cnt.out
          go_wp2
          all_goals (
            go_meet
            first
              | exact ⟨rfl, rfl⟩
              | exact ⟨congrArg Value.bool (decide_eq_false (by omega)), rfl⟩)
        · have cv : (n : Int) ≤ 2048 := cnt.out
          go_wp2
          all_goals (
            go_meet
            first
              | exact ⟨rfl, rfl⟩
              | exact ⟨congrArg Value.bool (decide_eq_false (by omega)), rfl⟩)
      · go_wp2
        go_meet
        exact ⟨rfl, rfl⟩
    case rest =>
      obtain ⟨rfl, hwc⟩ := hcut
      obtain rfl : w = wc := hwc.symm
      clear hwc
      go_wp2_with fail
      refine (sorted_any w b1 o1 n c1 nl L (by omega) (by omega) C1.out.2 C1.out.1).mono ?_
      rintro e w0 ⟨ht, q, hq⟩
      have Q0 : Hid (w0 = w.drewN q) := hq
      clear hq
      rcases ht with ⟨rfl, hsr⟩ | ⟨rfl, hsr⟩
      · have hnl : 0 < nl := by have := (hsr 0 (by omega)).1; omega
        obtain ⟨b0, o0, rfl, hb0, hc0, hr0⟩ := H0.out.1.plain hnl
        have HL : Hid (Srt n nl L ∧ ∀ i, i < nl → 0 ≤ f0 i ∧ f0 i ≤ 255) := by
          rw [← HF.out]
          exact ⟨hsr, fun i hi => bounds_u8 (hr0 i hi)⟩
        clear hsr
        have Q2 : Hid (w0.heap.size = w.heap.size ∧ Below w.heap.size w w0 ∧ (∀ i, i < n → w0.cell? ⟨b1, o1 + i, none⟩ = some (.int .u64 (L i))) ∧ ∀ i, i < nl → w0.cell? ⟨b0, o0 + i, none⟩ = some (.int .u8 (f0 i))) := by
          rw [Q0.out, ← HF.out]
          exact ⟨rfl, below_drewN (Below.refl _ _) q, C1.out.1, hc0⟩
        clear hc0 hr0 Q0 HF H0
        go_wp2_with fail
        refine (distinct_any w0 b1 o1 n c1 nl L (by omega) (by omega) (by have := Q2.out.1; omega) C1.out.2 (fun i hi => (HL.out.1 i hi).1) Q2.out.2.2.1).mono ?_
        rintro e w1 ⟨ht, hbl⟩
        have Q1 : Hid (Below w.heap.size w w1 ∧ (∀ i, i < n → w1.cell? ⟨b1, o1 + i, none⟩ = some (.int .u64 (L i))) ∧ ∀ i, i < nl → w1.cell? ⟨b0, o0 + i, none⟩ = some (.int .u8 (f0 i))) := by
          have e := Q2.out.1
          rw [e] at hbl
          exact ⟨Q2.out.2.1.trans hbl, fun i hi => (hbl.cell (p := ⟨b1, o1 + i, none⟩) hb1).trans (Q2.out.2.2.1 i hi), fun i hi => (hbl.cell (p := ⟨b0, o0 + i, none⟩) hb0).trans (Q2.out.2.2.2 i hi)⟩
        clear hbl Q2
        rcases ht with ⟨rfl, hds⟩ | ⟨rfl, hds⟩
        · have HDS : Hid (Dst n L) := hds
          clear hds
          go_wp2_with fail
          refine (total_any w1 b1 o1 n c1 L (by omega) C1.out.2 Q1.out.2.1).mono ?_
          rintro e w' ⟨rfl, hw⟩
          obtain rfl : w1 = w' := hw.symm
          clear hw
          obtain ⟨S, hS⟩ : ∃ S, sm (lwt L) n = S := ⟨_, rfl⟩
          have HS : Hid (sm (lwt L) n = S) := hS
          simp only [hS]
          clear hS
          by_cases htot : S > 36028797018963968
          · go_wp2
            go_ret
            exact ⟨rfl, Q1.out.1⟩
          · have PPH : Hid (PP n nl M f0 L) := ⟨C1.out.2, HL.out.1, HDS.out, HL.out.2, by have := HS.out; omega, by have := cnt.out; omega, by omega, by omega⟩
            clear C1 HL HDS HS
            obtain ⟨B, hB⟩ : ∃ B, w1.heap.size = B := ⟨_, rfl⟩
            have hwB : w.heap.size ≤ B := by rw [← hB]; exact Q1.out.1.size
            go_wp2_with fail
            refine (cloneB_any _ nl c0 f0 w1 (by omega) (fun i hi => by rw [add_plain']; exact Q1.out.2.2 i hi)).mono ?_
            rintro e w2 ⟨rfl, r2, l2, e2⟩
            rw [hB] at r2 l2 e2 ⊢
            have D2 : Hid (w2.rowIs B 5 nl (fun i => .int .u8 (f0 i)) ∧ Below w.heap.size w w2 ∧ ∀ i, i < n → w2.cell? ⟨b1, o1 + i, none⟩ = some (.int .u64 (L i))) :=
              ⟨r2, Q1.out.1.trans ⟨l2.os, l2.tape, l2.output, l2.size, fun k hk => l2.block k (by omega)⟩, fun i hi => (l2.cell (p := ⟨b1, o1 + i, none⟩) (show b1 < B by omega)).trans (Q1.out.2.1 i hi)⟩
            clear r2 l2 Q1 hB
            go_wp2_with fail
            refine (cloneL_any _ n c1 L w2 (by omega) (fun i hi => by rw [add_plain']; exact D2.out.2.2 i hi)).mono ?_
            rintro e w3 ⟨rfl, r3, l3, e3⟩
            rw [e2] at r3 l3 e3 ⊢
            have D3 : Hid (w3.rowIs B 5 nl (fun i => .int .u8 (f0 i)) ∧ w3.rowIs (B + 1) 28 n (fun i => .int .u64 (L i)) ∧ Below w.heap.size w w3) :=
              ⟨row_below D2.out.1 l3 (by omega), r3, D2.out.2.1.trans ⟨l3.os, l3.tape, l3.output, l3.size, fun k hk => l3.block k (by omega)⟩⟩
            clear r3 l3 D2 e2
            go_wp2_with fail
            refine (cloneB_any _ nl nl f0 w3 (by omega) (fun i hi => by rw [add_plain', Nat.zero_add]; exact D3.out.1.cell hi)).mono ?_
            rintro e w4 ⟨rfl, r4, l4, e4⟩
            rw [e3] at r4 l4 e4 ⊢
            have D4 : Hid (w4.rowIs B 5 nl (fun i => .int .u8 (f0 i)) ∧ w4.rowIs (B + 1) 28 n (fun i => .int .u64 (L i)) ∧ w4.rowIs (B + 2) 5 nl (fun i => .int .u8 (f0 i)) ∧ Below w.heap.size w w4) :=
              ⟨row_below D3.out.1 l4 (by omega), row_below D3.out.2.1 l4 (by omega), r4, D3.out.2.2.trans ⟨l4.os, l4.tape, l4.output, l4.size, fun k hk => l4.block k (by omega)⟩⟩
            clear r4 l4 D3 e3
            go_wp2_with fail
            refine (zpm_any w4 (B + 2) nl n M _ _ f0 L PPH (show Hid _ from fun _ => ⟨rfl, D4.out.2.2.1⟩) (show Hid _ from fun _ => ⟨B + 1, rfl, by omega, D4.out.2.1⟩)).mono ?_
            rintro e w5 ⟨rfl, k, x, l, len', y1, y2, y3, y4, y5⟩
            have D5 : Hid (w5.rowIs B 5 nl (fun i => .int .u8 (f0 i)) ∧ w5.rowIs (B + 1) 28 n (fun i => .int .u64 (L i)) ∧ Below w.heap.size w w5) :=
              ⟨y5.row D4.out.1 (by omega), y5.row D4.out.2.1 (by omega), D4.out.2.2.2.trans (y5.toBelow (by omega) D4.out.2.2.2.size)⟩
            have D6 : Hid (LN n L f0 len' l ∧ w5.rowIs (B + 2) 5 nl (fun i => .int .u8 (len' i))) := ⟨y2, y1 hnl⟩
            have D9 : Hid (k ≤ M ∧ ((2 ≤ n ∧ DN n M k x 0 l) ∨ (n < 2 ∧ ∀ i, l i = 0))) := ⟨y3, y4⟩
            clear y1 y2 y3 y4 y5 D4
            go_wp2_with fail
            refine (others_any w5 B (B + 2) (B + 1) n nl f0 len' L (by omega) (by omega) PPH.out.rng (fun i hi => (PPH.out.srt i hi).1) D5.out.1 D6.out.2 D5.out.2.1 (fun s _ h => (D6.out.1.off s h).symm)).mono ?_
            rintro e w6 ⟨rfl, l6⟩
            have D7 : Hid (w6.rowIs B 5 nl (fun i => .int .u8 (f0 i)) ∧ w6.rowIs (B + 1) 28 n (fun i => .int .u64 (L i)) ∧ w6.rowIs (B + 2) 5 nl (fun i => .int .u8 (len' i)) ∧ Below w.heap.size w w6) :=
              ⟨row_below D5.out.1 l6 D5.out.1.lt, row_below D5.out.2.1 l6 D5.out.2.1.lt, row_below D6.out.2 l6 D6.out.2.lt, D5.out.2.2.trans ⟨l6.os, l6.tape, l6.output, l6.size, fun j hj => l6.block j (Nat.lt_of_lt_of_le hj D5.out.2.2.size)⟩⟩
            have HLN : Hid (LN n L f0 len' l) := D6.out.1
            clear l6 D5 D6
            have CC : Hid (CO n M L l) := by
              rcases D9.out.2 with ⟨_, dn⟩ | ⟨h, _⟩
              · exact ⟨fun i hi => ⟨kraft_one_pos (by omega) dn.fin i hi, Nat.le_trans (dn.le i hi) D9.out.1⟩, dn.fin, dn.anti⟩
              · omega
            have k1 := run_make_row' 31 3 (.int .i64 0) 8 Try.underlying31 info3 rfl .i64 .i64 n (by omega) (by omega)
            go_wp2
            clear k1 D9
            obtain ⟨Bl, hBl⟩ : ∃ Bl, w6.heap.size = Bl := ⟨_, rfl⟩
            simp only [hBl]
            have D8 : Hid (Bl ≠ B ∧ Bl ≠ B + 1 ∧ Bl ≠ B + 2 ∧ w.heap.size ≤ Bl) := by
              have a0 := D7.out.1.lt
              have a1 := D7.out.2.1.lt
              have a2 := D7.out.2.2.1.lt
              have a3 := D7.out.2.2.2.size
              exact ⟨by omega, by omega, by omega, by omega⟩
            have I0 : Hid (INC w (w6.alloc (.cells (madeCells #[.int .i64 0] n) 3)) B Bl nl n f0 L len' l 0) := by
              refine ⟨?_, D7.out.1.alloc _, D7.out.2.1.alloc _, D7.out.2.2.1.alloc _, D7.out.2.2.2.alloc D7.out.2.2.2.size _⟩
              have h := World.rowIs_made w6 (.int .i64 0) n 3
              rw [hBl] at h
              exact h.congr (fun j hj => by rw [if_neg (by omega)])
            clear D7 hBl
            go_loopw [12] (fun ri wr => ∃ i : Nat, i ≤ n ∧ ri = .int .i64 (i : Int) ∧ INC w wr B Bl nl n f0 L len' l i) (fun ri _ => n - (intOf ri).toNat)
            case atStart => exact ⟨0, by omega, rfl, I0.out⟩
            case round =>
              clear I0
              obtain ⟨i, hi, rfl, hr⟩ := hrel
              have R : Hid (INC w wr B Bl nl n f0 L len' l i) := hr
              clear hr
              by_cases hik : i < n
              · have g1 : (i : Int) < (n : Int) := by omega
                have g2 := (PPH.out.srt i hik).1
                have g3 : ((sN (L i) : Nat) : Int) < (nl : Int) := by omega
                have l1 := (PPH.out.rng i hik).1
                have l2 := (PPH.out.rng i hik).2
                have u1 := (CC.out.rng i hik).2
                have f1 := R.out.lv.cell hik
                have f2 := R.out.ou.cell g2
                have f3 := R.out.ln.cell g2
                have f4 := R.out.ic.cell hik
                have f5 := R.out.ic.frozen i
                have hon := HLN.out.on i hik
                have hfr := PPH.out.lr _ g2
                obtain ⟨y, hy⟩ : ∃ y, len' (sN (L i)) = y := ⟨_, rfl⟩
                obtain ⟨z, hz⟩ : ∃ z, f0 (sN (L i)) = z := ⟨_, rfl⟩
                rw [hy] at f2 hon
                rw [hz] at f3 hon hfr
                have e1 : IntKind.u8.wrap (y - z) = (l i : Int) := by rw [IntKind.wrap_u8]; omega
                have e2 : IntKind.i64.wrap (l i : Int) = (l i : Int) := by rw [IntKind.wrap_i64]; omega
                have NX : Hid (INC w (wr.setCell ⟨Bl, i, none⟩ (.int .i64 (l i : Int))) B Bl nl n f0 L len' l (i + 1)) := R.out.step D8.out
                clear hy hz hon hfr
                go_wp2_with (go_at_call 13; refine (sym13 _ l1 l2 _).mono ?_; rintro e w' ⟨rfl, hw⟩; obtain rfl : wr = w' := hw.symm; clear hw)
                go_region
                have N9 := NX.out.drewN 1
                obtain ⟨w9, hw9⟩ : ∃ w9, (wr.setCell ⟨Bl, i, none⟩ (.int .i64 (l i : Int))).drewN 1 = w9 := ⟨_, rfl⟩
                have hw9' : (wr.setCell ⟨Bl, i, none⟩ (.int .i64 (l i : Int))).drew = w9 := hw9
                have hw9'' : wr.drew.setCell ⟨Bl, i, none⟩ (.int .i64 (l i : Int)) = w9 := hw9
                rw [hw9] at N9
                first
                  | simp only [hw9']
                  | simp only [hw9'']
                have H9 : Hid (INC w w9 B Bl nl n f0 L len' l (i + 1)) := N9
                clear hw9 hw9' hw9'' N9 NX R f1 f2 f3 f4 f5 e1 e2
                have f6 := H9.out.ic.cell hik
                rw [if_pos (by omega)] at f6
                by_cases hi0 : i = 0
                · subst hi0
                  go_wp2
                  go_quiet (fail)
                  go_wp2
                  go_roundw
                  case rel => exact ⟨1, by omega, by go_num, H9.out.drewN _⟩
                  case measure => simp [intOf] <;> omega
                · have f7 := H9.out.ic.cell (i := i - 1) (by omega)
                  rw [if_pos (by omega)] at f7
                  have d1 : decide (0 < i) = true := decide_eq_true (by omega)
                  have c4 : IntKind.i64.wrap ((i : Int) - 1) = ((i - 1 : Nat) : Int) := by
                    rw [IntKind.wrap_i64]; omega
                  have c3 : ((i - 1 : Nat) : Int) < (n : Int) := by omega
                  have c1 : ((i : Int) - 1).toNat = i - 1 := by omega
                  have an := CC.out.anti (i - 1) i (by omega) hik
                  have d2 : decide (l (i - 1) < l i) = false := decide_eq_false (by omega)
                  go_wp2
                  go_quiet (fail)
                  go_wp2
                  go_roundw
                  case rel => exact ⟨i + 1, by omega, by go_num, H9.out.drewN _⟩
                  case measure => simp [intOf] <;> omega
              · have g1 : ¬ (i : Int) < (n : Int) := by omega
                have R2 : Hid (wr.rowIs Bl 3 n (fun j => .int .i64 (l j : Int)) ∧ Below w.heap.size w wr) :=
                  ⟨R.out.ic.congr (fun j hj => by rw [if_pos (by omega)]), R.out.bl⟩
                clear R
                go_wp2_with fail
                refine (kraft_any wr Bl n M l (by omega) (by omega) CC.out.rng CC.out.krf R2.out.1).mono ?_
                rintro e w7 ⟨rfl, l7⟩
                have R3 : Hid (Below w.heap.size w w7) := R2.out.2.trans ⟨l7.os, l7.tape, l7.output, l7.size, fun j hj => l7.block j (Nat.lt_of_lt_of_le hj R2.out.2.size)⟩
                clear l7 R2
                go_wp2
                go_ret
                exact ⟨rfl, R3.out⟩
        · go_wp2
          go_ret
          exact ⟨rfl, Q1.out.1⟩
      · go_wp2
        go_ret
        exact ⟨rfl, by rw [Q0.out]; exact below_drewN (Below.refl _ _) q⟩
  · go_wp2
    go_ret
    exact ⟨rfl, Below.refl _ _⟩
end Go.Proofs.Qxb6601138a.Hf
