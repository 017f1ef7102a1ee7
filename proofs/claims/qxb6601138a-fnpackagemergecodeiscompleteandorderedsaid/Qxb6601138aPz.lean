import Derived.Test.Qxb6601138aPx
import Derived.Test.Qxb6601138aZh
import Derived.OpenShut
namespace Go.Proofs.Qxb6601138a.Hf
open Go.RowKit Gw
set_option linter.unusedVariables false

/-- As the shell has it. -/
def IsRowH (k : IntKind) (w : World) (a : Option Addr) (len cap : Nat) (zs : List Int) : Prop :=
  (a = none ∧ len = 0 ∧ cap = 0 ∧ zs = []) ∨
  ∃ x, a = some x ∧ len ≤ cap ∧ cap ≤ maxLen ∧ zs.length = cap ∧ (∀ i, i < zs.length → w.cell? (x.add i) = some (.int k (zs.getD i 0))) ∧ ∀ n ∈ zs, (Lit.int k n).wf = true
theorem IsRowH.small {k : IntKind} {w : World} {a : Option Addr} {len cap : Nat} {zs : List Int} (h : IsRowH k w a len cap zs) : len ≤ 9223372036854775807 := by
  rcases h with ⟨_, h, _, _⟩ | ⟨x, _, h1, h2, _⟩
  · omega
  · unfold maxLen at h2; omega
theorem IsRowH.plain {k : IntKind} {w : World} {a : Option Addr} {len cap : Nat} {zs : List Int} (h : IsRowH k w a len cap zs) (hl : 0 < len) :
    ∃ b o, a = some ⟨b, o, none⟩ ∧ b < w.heap.size ∧ (∀ i, i < len → w.cell? ⟨b, o + i, none⟩ = some (.int k (zs.getD i 0))) ∧ ∀ i, i < len → (Lit.int k (zs.getD i 0)).wf = true := by
  rcases h with ⟨_, h, _, _⟩ | ⟨x, rfl, h1, h2, h3, h4, h5⟩
  · omega
  · obtain ⟨b, o, rfl, hb, hc⟩ := cell_add (n := len) (g := fun i => .int k (zs.getD i 0)) (fun i hi => h4 i (by omega)) hl
    refine ⟨b, o, rfl, hb, hc, fun i hi => ?_⟩
    have hi2 : i < zs.length := by omega
    have : zs.getD i 0 = zs[i] := by rw [List.getD_eq_getElem?_getD, List.getElem?_eq_getElem hi2]; rfl
    rw [this]; exact h5 _ (List.getElem_mem hi2)
theorem below_drewN {B : Nat} {w w' : World} (h : Below B w w') (k : Nat) : Below B w (w'.drewN k) := ⟨h.os, h.tape, h.output, h.size, h.block⟩

theorem asg_congr {len : Nat → Int} {sy D D' : Nat → Nat} : ∀ {k : Nat}, (∀ i, i < k → D i = D' i) → asg len sy D k = asg len sy D' k := by
  intro k
  induction k with
  | zero => intro _; rfl
  | succ k ih =>
    intro h
    show upd (asg len sy D k) (sy k) ((D k : Int) % 256) = upd (asg len sy D' k) (sy k) ((D' k : Int) % 256)
    rw [ih (fun i hi => h i (by omega)), h k (by omega)]
theorem first_eq {n k k' : Nat} {D : Nat → Nat} {m : Int} (h1 : k' ≤ n) (h2 : k ≤ n) (h3 : ∀ i, i < k' → (D i : Int) ≤ m) (h4 : k' < n → m < (D k' : Int)) (h5 : ∀ i, i < k → (D i : Int) ≤ m) (h6 : k < n → m < (D k : Int)) : k' = k := by
  rcases Nat.lt_trichotomy k' k with h | h | h
  · have := h5 k' h; have := h4 (by omega); omega
  · exact h
  · have := h3 k h; have := h6 (by omega); omega

/-- The copies. -/
structure ME (w wr : World) (B nl n : Nat) (L lo lw : Nat → Int) : Prop where
  lv : wr.rowIs (B + 1) 28 n (fun i => .int .u64 (L i))
  out : wr.rowIs (B + 2) 5 nl (fun i => .int .u8 (lo i))
  want : wr.rowIs (B + 3) 5 nl (fun i => .int .u8 (lw i))
  bel : Below w.heap.size w wr
theorem ME.drewN {w wr : World} {B nl n : Nat} {L lo lw : Nat → Int} (h : ME w wr B nl n L lo lw) (k : Nat) : ME w (wr.drewN k) B nl n L lo lw := ⟨h.lv, h.out, h.want, below_drewN h.bel k⟩
theorem ME.below {w wr w' : World} {B nl n : Nat} {L lo lw : Nat → Int} (h : ME w wr B nl n L lo lw) (hb : Below wr.heap.size wr w') : ME w w' B nl n L lo lw :=
  ⟨row_below h.lv hb h.lv.lt, row_below h.out hb h.out.lt, row_below h.want hb h.want.lt, h.bel.trans ⟨hb.os, hb.tape, hb.output, hb.size, fun k hk => hb.block k (Nat.lt_of_lt_of_le hk h.bel.size)⟩⟩
theorem ME.setWant {w wr : World} {B nl n : Nat} {L lo lw : Nat → Int} (h : ME w wr B nl n L lo lw) (hB : w.heap.size = B) (i : Nat) (v : Int) : ME w (wr.setCell ⟨B + 3, i, none⟩ (.int .u8 v)) B nl n L lo (upd lw i v) := by
  refine ⟨h.lv.setOther (show B + 1 ≠ B + 3 by omega) _, h.out.setOther (show B + 2 ≠ B + 3 by omega) _, (h.want.set i _).congr (fun j hj => ?_), h.bel.setCell (show w.heap.size ≤ B + 3 by omega) _⟩
  by_cases e : j = i
  · subst e; rw [if_pos rfl, upd_same]
  · rw [if_neg e, upd_ne e]

/-- The end of a verdict. -/
def OK (w : World) (e : Ending) (w' : World) : Prop := e = .returned (.bool true) ∧ Below w.heap.size w w'

set_option maxRecDepth 100000 in
set_option maxHeartbeats 8000000 in
/-- The way on from the leaves' being sorted. -/
theorem matches_at (a0 : Option Addr) (nl c0 : Nat) (z0 : List Int) (a1 : Option Addr) (n c1 : Nat) (z1 : List Int) (mb : Int) (w : World) (h0 : IsRowH .u8 w a0 nl c0 z0) (h1 : IsRowH .u64 w a1 n c1 z1) :
    Calls Try.prog 3 #[.slice a0 nl c0, .slice a1 n c1, .int .i64 mb] w fun e w' => OK w e w' := by
  have s0 := h0.small
  have s1 := h1.small
  have H0 : Hid (IsRowH .u8 w a0 nl c0 z0 ∧ IsRowH .u64 w a1 n c1 z1) := ⟨h0, h1⟩
  clear h0 h1
  by_cases p1 : (nl : Int) > 65536
  · go_enter Try.func3, Try.ntmps3
    go_wp2_with (go_at_call 8; refine (bytes8 _ _ _ _ _ _ _ _ s0 s1).mono ?_; rintro e w' ⟨he | he, hw⟩ <;> obtain rfl : w = w' := hw.symm <;> subst he)
    all_goals (
      go_ret
      exact ⟨rfl, Below.refl _ _⟩)
  by_cases p2 : (n : Int) > 4096
  · go_enter Try.func3, Try.ntmps3
    go_wp2_with (go_at_call 8; refine (bytes8 _ _ _ _ _ _ _ _ s0 s1).mono ?_; rintro e w' ⟨he | he, hw⟩ <;> obtain rfl : w = w' := hw.symm <;> subst he)
    all_goals (
      go_ret
      exact ⟨rfl, Below.refl _ _⟩)
  by_cases p3 : (n : Int) < 2
  · go_enter Try.func3, Try.ntmps3
    go_wp2_with (go_at_call 8; refine (bytes8 _ _ _ _ _ _ _ _ s0 s1).mono ?_; rintro e w' ⟨he | he, hw⟩ <;> obtain rfl : w = w' := hw.symm <;> subst he)
    all_goals (
      go_ret
      exact ⟨rfl, Below.refl _ _⟩)
  obtain ⟨b1, o1, rfl, hb1, hc1, hr1⟩ := H0.out.2.plain (by omega)
  obtain ⟨L, hLd⟩ : ∃ L : Nat → Int, (fun i => z1.getD i 0) = L := ⟨_, rfl⟩
  obtain ⟨f0, hfd⟩ : ∃ f0 : Nat → Int, (fun i => z0.getD i 0) = f0 := ⟨_, rfl⟩
  have C1 : Hid ((∀ i, i < n → w.cell? ⟨b1, o1 + i, none⟩ = some (.int .u64 (L i))) ∧ ∀ i, i < n → 0 ≤ L i ∧ L i ≤ 18446744073709551615) := by
    rw [← hLd]
    exact ⟨hc1, fun i hi => bounds_u64 (hr1 i hi)⟩
  have HF : Hid ((fun i => z0.getD i 0) = f0) := hfd
  clear hc1 hr1 hLd hfd
  go_enter Try.func3, Try.ntmps3
  go_wp2_with fail
  refine (bytes8 _ _ _ _ _ _ _ _ s0 s1).mono ?_
  rintro e w' ⟨he, hw⟩
  obtain rfl : w = w' := hw.symm
  clear hw
  rcases he with rfl | rfl
  · go_wp2_with fail
    refine (sorted_any w b1 o1 n c1 nl L (by omega) (by omega) C1.out.2 C1.out.1).mono ?_
    rintro e w1 ⟨ht, q, hq⟩
    have Q1 : Hid (w1 = w.drewN q) := hq
    clear hq
    rcases ht with ⟨rfl, hsr⟩ | ⟨rfl, hsr⟩
    · have hnl : 0 < nl := by have := (hsr 0 (by omega)).1; omega
      obtain ⟨b0, o0, rfl, hb0, hc0, hr0⟩ := H0.out.1.plain hnl
      have hLv : Lv n nl L := ⟨by omega, C1.out.2, fun i hi => (hsr i hi).1, fun i j hij hj => hsr.mono j i hij hj⟩
      have HL : Hid (Lv n nl L) := hLv
      clear hLv hsr
      obtain ⟨B, hB⟩ : ∃ B, w.heap.size = B := ⟨_, rfl⟩
      have HBB : Hid (w.heap.size = B) := hB
      have e1 : w1.heap.size = B := by rw [Q1.out]; exact hB
      have C0 : Hid ((∀ i, i < nl → w1.cell? ⟨b0, o0 + i, none⟩ = some (.int .u8 (f0 i))) ∧ (∀ i, i < n → w1.cell? ⟨b1, o1 + i, none⟩ = some (.int .u64 (L i))) ∧ Below B w w1 ∧ b0 < B ∧ b1 < B) := by
        rw [Q1.out, ← HF.out]
        exact ⟨hc0, C1.out.1, below_drewN (Below.refl _ _) q, by omega, by omega⟩
      clear hc0 hr0 Q1 C1 HF H0 hB hb0 hb1
      go_wp2_with fail
      refine (cloneB_any _ nl c0 f0 w1 (by omega) (fun i hi => by rw [add_plain']; exact C0.out.1 i hi)).mono ?_
      rintro e w2 ⟨rfl, r2, l2, e2⟩
      rw [e1] at r2 l2 e2 ⊢
      have D2 : Hid (w2.rowIs B 5 nl (fun i => .int .u8 (f0 i)) ∧ Below B w w2 ∧ ∀ i, i < n → w2.cell? ⟨b1, o1 + i, none⟩ = some (.int .u64 (L i))) :=
        ⟨r2, C0.out.2.2.1.trans l2, fun i hi => (l2.cell (p := ⟨b1, o1 + i, none⟩) C0.out.2.2.2.2).trans (C0.out.2.1 i hi)⟩
      clear r2 l2 C0 e1
      go_wp2_with fail
      refine (cloneL_any _ n c1 L w2 (by omega) (fun i hi => by rw [add_plain']; exact D2.out.2.2 i hi)).mono ?_
      rintro e w3 ⟨rfl, r3, l3, e3⟩
      rw [e2] at r3 l3 e3 ⊢
      have D3 : Hid (w3.rowIs B 5 nl (fun i => .int .u8 (f0 i)) ∧ w3.rowIs (B + 1) 28 n (fun i => .int .u64 (L i)) ∧ Below B w w3) :=
        ⟨row_below D2.out.1 l3 (by omega), r3, D2.out.2.1.trans ⟨l3.os, l3.tape, l3.output, l3.size, fun k hk => l3.block k (by omega)⟩⟩
      clear r3 l3 D2 e2
      go_wp2_with fail
      refine (cloneB_any _ nl nl f0 w3 (by omega) (fun i hi => by rw [add_plain', Nat.zero_add]; exact D3.out.1.cell hi)).mono ?_
      rintro e w4 ⟨rfl, r4, l4, e4⟩
      rw [e3] at r4 l4 e4 ⊢
      have D4 : Hid (w4.rowIs B 5 nl (fun i => .int .u8 (f0 i)) ∧ w4.rowIs (B + 1) 28 n (fun i => .int .u64 (L i)) ∧ w4.rowIs (B + 2) 5 nl (fun i => .int .u8 (f0 i)) ∧ Below B w w4) :=
        ⟨row_below D3.out.1 l4 (by omega), row_below D3.out.2.1 l4 (by omega), r4, D3.out.2.2.trans ⟨l4.os, l4.tape, l4.output, l4.size, fun k hk => l4.block k (by omega)⟩⟩
      clear r4 l4 D3 e3
      go_wp2_with fail
      refine (cloneB_any _ nl nl f0 w4 (by omega) (fun i hi => by rw [add_plain', Nat.zero_add]; exact D4.out.1.cell hi)).mono ?_
      rintro e w5 ⟨rfl, r5, l5, e5⟩
      rw [e4] at r5 l5 e5 ⊢
      have D5 : Hid (ME w w5 B nl n L f0 f0) :=
        ⟨row_below D4.out.2.1 l5 (by omega), row_below D4.out.2.2.1 l5 (by omega), r5, by rw [HBB.out]; exact D4.out.2.2.2.trans ⟨l5.os, l5.tape, l5.output, l5.size, fun k hk => l5.block k (by omega)⟩⟩
      clear r5 l5 D4 e4
      go_wp2_with fail
      refine (pool_any w5 (B + 1) nl n L HL D5.out.lv).mono ?_
      rintro e w6 ⟨Bd, dep, hBd, rfl, r6, l6, hdb, hdd⟩
      have DP : Hid (B + 4 ≤ Bd ∧ w6.rowIs Bd 28 n (fun i => .int .u64 (dep i : Int)) ∧ (∀ i, i < n → dep i ≤ 4096) ∧ ∀ d, Dep n (qs n (lwt L) (n - 1)).ip d → ∀ i, i < n → dep i = dl (qs n (lwt L) (n - 1)).lp d i) := ⟨by omega, r6, hdb, hdd⟩
      have D6 : Hid (ME w w6 B nl n L f0 f0) := D5.out.below l6
      clear hBd r6 l6 hdb hdd D5 e5
      go_wp2
      go_loopw [11, 12] (fun rok ri wr => ∃ k : Nat, k ≤ n ∧ rok = .bool true ∧ ri = .int .i64 (k : Int) ∧ ME w wr B nl n L f0 (asg f0 (fun i => sN (L i)) dep k) ∧ wr.rowIs Bd 28 n (fun i => .int .u64 (dep i : Int)) ∧ ∀ i, i < k → (dep i : Int) ≤ lim mb) (fun _ ri _ => n - (intOf ri).toNat)
      case atStart => exact ⟨0, by omega, rfl, rfl, D6.out, DP.out.2.1, fun i hi => by omega⟩
      case round =>
        clear D6
        obtain ⟨k, hk, rfl, rfl, he, hd, hlm⟩ := hrel
        have LP : Hid (ME w wr B nl n L f0 (asg f0 (fun i => sN (L i)) dep k) ∧ ∀ i, i < k → (dep i : Int) ≤ lim mb) := ⟨he, hlm⟩
        have LD : Hid (wr.rowIs Bd 28 n (fun i => .int .u64 (dep i : Int))) := hd
        clear he hd hlm
        by_cases hkn : k < n
        · have b1 : (k : Int) < (n : Int) := by omega
          have f1 := LD.out.cell hkn
          have db := DP.out.2.2.1 k hkn
          by_cases hlim : lim mb < (dep k : Int)
          · have LK : Hid (k < n → lim mb < (dep k : Int)) := fun _ => hlim
            unfold lim at hlim
            go_wp2_with fail
            clear f1
            refine (zhuff_any wr (B + 2) (B + 1) nl n f0 L mb HL.out (by omega) LP.out.1.out LP.out.1.lv).mono ?_
            rintro e w7 ⟨dd, k', z1', z2', z3', z4', rfl, z5', z6'⟩
            have ek : k' = k := first_eq z2' (by omega) z3' z4' (fun i hi => by rw [← DP.out.2.2.2 dd z1' i (by omega)]; exact LP.out.2 i hi) (fun hkn => by rw [← DP.out.2.2.2 dd z1' k hkn]; exact LK.out hkn)
            subst ek
            have ea : asg f0 (fun i => sN (L i)) (dl (qs n (lwt L) (n - 1)).lp dd) k' = asg f0 (fun i => sN (L i)) dep k' := asg_congr (fun i hi => (DP.out.2.2.2 dd z1' i (by omega)).symm)
            rw [ea] at z5'
            have E6 : Hid (w7.rowIs (B + 2) 5 nl (fun i => .int .u8 (asg f0 (fun i => sN (L i)) dep k' i)) ∧ w7.rowIs (B + 3) 5 nl (fun i => .int .u8 (asg f0 (fun i => sN (L i)) dep k' i)) ∧ Below w.heap.size w w7) :=
              ⟨z5', z6'.row LP.out.1.want (by omega), LP.out.1.bel.trans (z6'.toBelow (by have := HBB.out; omega) (LP.out.1.bel.size))⟩
            clear z1' z2' z3' z4' z5' z6' ea
            have dk : decide (k' = n) = false := decide_eq_false (by omega)
            rw [dk]
            go_wp2
            go_loopw [14] (fun ri wr => ∃ j : Nat, j ≤ nl ∧ ri = .int .i64 (j : Int) ∧ ∃ nq, wr = w7.drewN nq) (fun ri _ => nl - (intOf ri).toNat)
            case atStart => exact ⟨0, by omega, rfl, 0, rfl⟩
            case round =>
              obtain ⟨j, hj, rfl, hwr⟩ := hrel
              have HN : Hid (∃ nq, wr = w7.drewN nq) := hwr
              have H2 : Hid ((∀ i, i < nl → wr.cell? ⟨B + 2, i, none⟩ = some (.int .u8 (asg f0 (fun i => sN (L i)) dep k' i))) ∧ (∀ i, i < nl → wr.cell? ⟨B + 3, i, none⟩ = some (.int .u8 (asg f0 (fun i => sN (L i)) dep k' i))) ∧ Below w.heap.size w wr) := by
                obtain ⟨nq, rfl⟩ := hwr
                exact ⟨fun i hi => E6.out.1.cell hi, fun i hi => E6.out.2.1.cell hi, below_drewN E6.out.2.2 nq⟩
              clear hwr
              by_cases hjn : j < nl
              · have g1 := H2.out.1 j hjn
                have g2 := H2.out.2.1 j hjn
                have b9 : (j : Int) < (nl : Int) := by omega
                go_wp2
                go_quiet (fail)
                go_wp2
                go_roundw
                case rel => exact ⟨j + 1, by omega, by go_num, drewN_ex HN.out _⟩
                case measure => simp [intOf]; omega
              · have b9 : ¬ (j : Int) < (nl : Int) := by omega
                go_wp2
                go_ret
                exact ⟨rfl, H2.out.2.2⟩
          · have LK : Hid (¬ lim mb < (dep k : Int)) := hlim
            unfold lim at hlim
            have f2 := LP.out.1.lv.cell hkn
            have l1 : 0 ≤ L k := (HL.out.rng k hkn).1
            have l2 : L k ≤ 18446744073709551615 := (HL.out.rng k hkn).2
            have hsy := HL.out.sy k hkn
            have f3 := LP.out.1.want.cell hsy
            have f4 := LP.out.1.want.frozen (sN (L k))
            have b4 : ((sN (L k) : Nat) : Int) < (nl : Int) := by omega
            have NX : Hid (ME w (wr.setCell ⟨B + 3, sN (L k), none⟩ (.int .u8 ((dep k : Int) % 256))) B nl n L f0 (asg f0 (fun i => sN (L i)) dep (k + 1))) := LP.out.1.setWant HBB.out (sN (L k)) ((dep k : Int) % 256)
            have ND : Hid ((wr.setCell ⟨B + 3, sN (L k), none⟩ (.int .u8 ((dep k : Int) % 256))).rowIs Bd 28 n (fun i => .int .u64 (dep i : Int))) := LD.out.setOther (show Bd ≠ B + 3 by have := DP.out.1; omega) _
            clear hsy
            go_wp2
            go_region_with (go_at_call 13; refine (sym13 _ l1 l2 _).mono ?_; rintro e w' ⟨rfl, rfl⟩)
            go_wp2
            all_goals
              go_roundw
              case rel =>
                refine ⟨k + 1, by omega, rfl, by go_num, NX.out.drewN 1, ND.out.of_block rfl, fun i hi => ?_⟩
                by_cases e : i = k
                · subst e; have := LK.out; omega
                · exact LP.out.2 i (by omega)
              case measure => simp [intOf]; omega
        · have b1 : ¬ (k : Int) < (n : Int) := by omega
          have LK : Hid (k < n → lim mb < (dep k : Int)) := fun h => absurd h hkn
          go_wp2_with fail
          refine (zhuff_any wr (B + 2) (B + 1) nl n f0 L mb HL.out (by omega) LP.out.1.out LP.out.1.lv).mono ?_
          rintro e w7 ⟨dd, k', z1', z2', z3', z4', rfl, z5', z6'⟩
          have ek : k' = k := first_eq z2' (by omega) z3' z4' (fun i hi => by rw [← DP.out.2.2.2 dd z1' i (by omega)]; exact LP.out.2 i hi) (fun hkn => by rw [← DP.out.2.2.2 dd z1' k hkn]; exact LK.out hkn)
          subst ek
          have ea : asg f0 (fun i => sN (L i)) (dl (qs n (lwt L) (n - 1)).lp dd) k' = asg f0 (fun i => sN (L i)) dep k' := asg_congr (fun i hi => (DP.out.2.2.2 dd z1' i (by omega)).symm)
          rw [ea] at z5'
          have E6 : Hid (w7.rowIs (B + 2) 5 nl (fun i => .int .u8 (asg f0 (fun i => sN (L i)) dep k' i)) ∧ w7.rowIs (B + 3) 5 nl (fun i => .int .u8 (asg f0 (fun i => sN (L i)) dep k' i)) ∧ Below w.heap.size w w7) :=
            ⟨z5', z6'.row LP.out.1.want (by omega), LP.out.1.bel.trans (z6'.toBelow (by have := HBB.out; omega) (LP.out.1.bel.size))⟩
          clear z1' z2' z3' z4' z5' z6' ea
          have dk : decide (k' = n) = true := decide_eq_true (by omega)
          rw [dk]
          go_wp2
          go_loopw [14] (fun ri wr => ∃ j : Nat, j ≤ nl ∧ ri = .int .i64 (j : Int) ∧ ∃ nq, wr = w7.drewN nq) (fun ri _ => nl - (intOf ri).toNat)
          case atStart => exact ⟨0, by omega, rfl, 0, rfl⟩
          case round =>
            obtain ⟨j, hj, rfl, hwr⟩ := hrel
            have HN : Hid (∃ nq, wr = w7.drewN nq) := hwr
            have H2 : Hid ((∀ i, i < nl → wr.cell? ⟨B + 2, i, none⟩ = some (.int .u8 (asg f0 (fun i => sN (L i)) dep k' i))) ∧ (∀ i, i < nl → wr.cell? ⟨B + 3, i, none⟩ = some (.int .u8 (asg f0 (fun i => sN (L i)) dep k' i))) ∧ Below w.heap.size w wr) := by
              obtain ⟨nq, rfl⟩ := hwr
              exact ⟨fun i hi => E6.out.1.cell hi, fun i hi => E6.out.2.1.cell hi, below_drewN E6.out.2.2 nq⟩
            clear hwr
            by_cases hjn : j < nl
            · have g1 := H2.out.1 j hjn
              have g2 := H2.out.2.1 j hjn
              have b9 : (j : Int) < (nl : Int) := by omega
              go_wp2
              go_quiet (fail)
              go_wp2
              go_roundw
              case rel => exact ⟨j + 1, by omega, by go_num, drewN_ex HN.out _⟩
              case measure => simp [intOf]; omega
            · have b9 : ¬ (j : Int) < (nl : Int) := by omega
              go_wp2
              go_ret
              exact ⟨rfl, H2.out.2.2⟩
    · go_wp2
      go_ret
      exact ⟨rfl, by rw [Q1.out]; exact below_drewN (Below.refl _ _) q⟩
  · go_wp2
    go_ret
    exact ⟨rfl, Below.refl _ _⟩
end Go.Proofs.Qxb6601138a.Hf
