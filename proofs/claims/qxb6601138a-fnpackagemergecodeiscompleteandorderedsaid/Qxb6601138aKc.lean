import Derived.Test.Qxb6601138aCm
import Derived.Test.Qxb6601138aKp
namespace Go.Proofs.Qxb6601138a.Hf
open Go.RowKit Gw
set_option linter.unusedVariables false

theorem below_drw {B : Nat} {w w' : World} (h : Below B w w') (k : Nat) : Below B w (w'.drewN k) := ⟨h.os, h.tape, h.output, h.size, h.block⟩
/-- No symbol twice. -/
def Dst (n : Nat) (L : Nat → Int) : Prop := ∀ i j, i < j → j < n → sN (L i) ≠ sN (L j)
/-- A mark for each symbol of the first k. -/
def Mk (L : Nat → Int) (k : Nat) (sn : Nat → Bool) : Prop := ∀ s, sn s = true ↔ ∃ i, i < k ∧ sN (L i) = s
theorem Mk.zero (L : Nat → Int) : Mk L 0 (fun _ => false) := fun s => by
  constructor
  · intro h; cases h
  · rintro ⟨i, hi, _⟩; omega
theorem Mk.next {L : Nat → Int} {k : Nat} {sn : Nat → Bool} (h : Mk L k sn) : Mk L (k + 1) (upd sn (sN (L k)) true) := fun s => by
  by_cases e : s = sN (L k)
  · subst e; rw [upd_same]; exact ⟨fun _ => ⟨k, by omega, rfl⟩, fun _ => rfl⟩
  · rw [upd_ne e, h s]
    constructor
    · rintro ⟨i, hi, e2⟩; exact ⟨i, by omega, e2⟩
    · rintro ⟨i, hi, e2⟩
      refine ⟨i, ?_, e2⟩
      rcases Nat.lt_or_ge i k with h3 | h3
      · exact h3
      · obtain rfl : i = k := by omega
        exact absurd e2.symm e

set_option maxHeartbeats 4000000 in
theorem distinct_any (w : World) (b o n c nl : Nat) (L : Nat → Int) (hn : n ≤ 4096) (hnl : nl ≤ 65536) (hb : b < w.heap.size) (rng : ∀ i, i < n → 0 ≤ L i ∧ L i ≤ 18446744073709551615) (hsy : ∀ i, i < n → sN (L i) < nl) (hc : ∀ i, i < n → w.cell? ⟨b, o + i, none⟩ = some (.int .u64 (L i))) :
    Calls Try.prog 16 #[.slice (some ⟨b, o, none⟩) n c, .int .i64 (nl : Int)] w fun e w' => Tells (Dst n L) e ∧ Below w.heap.size w w' := by
  have H : Hid ((∀ i, i < n → 0 ≤ L i ∧ L i ≤ 18446744073709551615) ∧ (∀ i, i < n → sN (L i) < nl) ∧ ∀ i, i < n → w.cell? ⟨b, o + i, none⟩ = some (.int .u64 (L i))) := ⟨rng, hsy, hc⟩
  clear rng hsy hc
  have k1 := run_make_row' 38 4 (.bool false) 1 Try.underlying38 info4 rfl .i64 .i64 nl (by omega) (by omega)
  go_enter Try.func16, Try.ntmps16
  go_wp2
  clear k1
  go_loopw [6] (fun ri wr => ∃ (k : Nat) (sn : Nat → Bool), k ≤ n ∧ ri = .int .i64 (k : Int) ∧ wr.rowIs w.heap.size 4 nl (fun i => .bool (sn i)) ∧ Below w.heap.size w wr ∧ Mk L k sn ∧ Dst k L) (fun ri _ => n - (intOf ri).toNat)
  case atStart => exact ⟨0, fun _ => false, by omega, rfl, World.rowIs_made w (.bool false) nl 4, (Below.refl _ _).alloc (Nat.le_refl _) _, Mk.zero L, fun i j _ hj => by omega⟩
  case round =>
    obtain ⟨k, sn, hk, rfl, hr, hbl, hm, hd⟩ := hrel
    have R : Hid (wr.rowIs w.heap.size 4 nl (fun i => .bool (sn i)) ∧ Below w.heap.size w wr ∧ Mk L k sn ∧ Dst k L) := ⟨hr, hbl, hm, hd⟩
    clear hr hbl hm hd
    by_cases hlt : k < n
    · have f1 : wr.cell? ⟨b, o + k, none⟩ = some (.int .u64 (L k)) := (R.out.2.1.cell (p := ⟨b, o + k, none⟩) hb).trans (H.out.2.2 k hlt)
      have l1 : 0 ≤ L k := (H.out.1 k hlt).1
      have l2 : L k ≤ 18446744073709551615 := (H.out.1 k hlt).2
      have b1 : (k : Int) < (n : Int) := by omega
      have hs := H.out.2.1 k hlt
      have b2 : ((sN (L k) : Nat) : Int) < (nl : Int) := by omega
      have f2 := R.out.1.cell hs
      have f3 := R.out.1.frozen (sN (L k))
      by_cases hsn : sn (sN (L k)) = true
      · rw [hsn] at f2
        have HN : Hid (¬ Dst n L) := fun h => by
          obtain ⟨i, hi, e⟩ := (R.out.2.2.1 (sN (L k))).mp hsn
          exact h i k hi hlt e
        clear hsn
        go_wp2_with (go_at_call 13; refine (sym13 _ l1 l2 _).mono ?_; rintro e w' ⟨rfl, rfl⟩)
        go_ret
        exact ⟨Or.inr ⟨rfl, HN.out⟩, R.out.2.1⟩
      · have hsf : sn (sN (L k)) = false := by simpa using hsn
        rw [hsf] at f2
        have HN : Hid (Dst (k + 1) L ∧ Mk L (k + 1) (upd sn (sN (L k)) true) ∧ (wr.setCell ⟨w.heap.size, sN (L k), none⟩ (.bool true)).rowIs w.heap.size 4 nl (fun i => .bool (upd sn (sN (L k)) true i))) := by
          refine ⟨fun i j hij hj => ?_, R.out.2.2.1.next, (R.out.1.set _ _).congr (fun j hj => ?_)⟩
          · by_cases e : j = k
            · subst e
              exact fun e2 => hsn ((R.out.2.2.1 _).mpr ⟨i, hij, e2⟩)
            · exact R.out.2.2.2 i j hij (by omega)
          · by_cases e : j = sN (L k)
            · subst e; rw [if_pos rfl, upd_same]
            · rw [if_neg e, upd_ne e]
        clear hsn hsf
        go_wp2_with (go_at_call 13; refine (sym13 _ l1 l2 _).mono ?_; rintro e w' ⟨rfl, rfl⟩)
        go_roundw
        case rel => exact ⟨k + 1, _, by omega, by go_num, HN.out.2.2, R.out.2.1.setCell (by simp) _, HN.out.2.1, HN.out.1⟩
        case measure => simp [intOf]; omega
    · have ekn : Hid (Dst n L) := by
        have e : k = n := by omega
        rw [← e]; exact R.out.2.2.2
      have b1 : ¬ (k : Int) < (n : Int) := by omega
      go_wp2
      go_ret
      exact ⟨Or.inl ⟨rfl, ekn.out⟩, R.out.2.1⟩

set_option maxHeartbeats 4000000 in
theorem others_any (w : World) (B Bo Bv n nl : Nat) (f g L : Nat → Int) (hn : n ≤ 4096) (hnl : nl ≤ 65536) (rng : ∀ i, i < n → 0 ≤ L i ∧ L i ≤ 18446744073709551615) (hsy : ∀ i, i < n → sN (L i) < nl) (h1 : w.rowIs B 5 nl (fun i => .int .u8 (f i))) (h2 : w.rowIs Bo 5 nl (fun i => .int .u8 (g i))) (h3 : w.rowIs Bv 28 n (fun i => .int .u64 (L i)))
    (same : ∀ s, s < nl → (∀ i, i < n → sN (L i) ≠ s) → f s = g s) :
    Calls Try.prog 17 #[.slice (some ⟨B, 0, none⟩) nl nl, .slice (some ⟨Bo, 0, none⟩) nl nl, .slice (some ⟨Bv, 0, none⟩) n n] w fun e w' => e = .returned (.bool true) ∧ Below w.heap.size w w' := by
  have H : Hid ((∀ i, i < n → 0 ≤ L i ∧ L i ≤ 18446744073709551615) ∧ (∀ i, i < n → sN (L i) < nl) ∧ (w.rowIs B 5 nl (fun i => .int .u8 (f i)) ∧ w.rowIs Bo 5 nl (fun i => .int .u8 (g i)) ∧ w.rowIs Bv 28 n (fun i => .int .u64 (L i))) ∧ (∀ s, s < nl → (∀ i, i < n → sN (L i) ≠ s) → f s = g s)) := ⟨rng, hsy, ⟨h1, h2, h3⟩, same⟩
  clear rng hsy h1 h2 h3 same
  have k1 := run_make_row' 38 4 (.bool false) 1 Try.underlying38 info4 rfl .i64 .i64 nl (by omega) (by omega)
  go_enter Try.func17, Try.ntmps17
  go_wp2
  clear k1
  go_loopw [8] (fun ri wr => ∃ (k : Nat) (sn : Nat → Bool), k ≤ n ∧ ri = .int .i64 (k : Int) ∧ wr.rowIs w.heap.size 4 nl (fun i => .bool (sn i)) ∧ Below w.heap.size w wr ∧ Mk L k sn) (fun ri _ => n - (intOf ri).toNat)
  case atStart => exact ⟨0, fun _ => false, by omega, rfl, World.rowIs_made w (.bool false) nl 4, (Below.refl _ _).alloc (Nat.le_refl _) _, Mk.zero L⟩
  case round =>
    obtain ⟨k, sn, hk, rfl, hr, hbl, hm⟩ := hrel
    have R : Hid (wr.rowIs w.heap.size 4 nl (fun i => .bool (sn i)) ∧ Below w.heap.size w wr ∧ Mk L k sn) := ⟨hr, hbl, hm⟩
    clear hr hbl hm
    by_cases hlt : k < n
    · have f1 := (row_below H.out.2.2.1.2.2 R.out.2.1 H.out.2.2.1.2.2.lt).cell hlt
      have l1 : 0 ≤ L k := (H.out.1 k hlt).1
      have l2 : L k ≤ 18446744073709551615 := (H.out.1 k hlt).2
      have b1 : (k : Int) < (n : Int) := by omega
      have hs := H.out.2.1 k hlt
      have b2 : ((sN (L k) : Nat) : Int) < (nl : Int) := by omega
      have f2 := R.out.1.cell hs
      have f3 := R.out.1.frozen (sN (L k))
      have HN : Hid (Mk L (k + 1) (upd sn (sN (L k)) true) ∧ (wr.setCell ⟨w.heap.size, sN (L k), none⟩ (.bool true)).rowIs w.heap.size 4 nl (fun i => .bool (upd sn (sN (L k)) true i))) := by
        refine ⟨R.out.2.2.next, (R.out.1.set _ _).congr (fun j hj => ?_)⟩
        by_cases e : j = sN (L k)
        · subst e; rw [if_pos rfl, upd_same]
        · rw [if_neg e, upd_ne e]
      go_wp2_with (go_at_call 13; refine (sym13 _ l1 l2 _).mono ?_; rintro e w' ⟨rfl, rfl⟩)
      go_roundw
      case rel => exact ⟨k + 1, _, by omega, by go_num, HN.out.2, R.out.2.1.setCell (by simp) _, HN.out.1⟩
      case measure => simp [intOf]; omega
    · have R2 : Hid (wr.rowIs w.heap.size 4 nl (fun i => .bool (sn i)) ∧ Below w.heap.size w wr ∧ Mk L n sn) := by
        have e : k = n := by omega
        rw [← e]; exact R.out
      have b1 : ¬ (k : Int) < (n : Int) := by omega
      clear R
      go_wp2
      obtain ⟨wo, rfl⟩ : ∃ wo : World, wo = wr := ⟨_, rfl⟩
      go_loopw [9] (fun ri wr => ∃ j : Nat, j ≤ nl ∧ ri = .int .i64 (j : Int) ∧ ∃ nq, wr = wo.drewN nq) (fun ri _ => nl - (intOf ri).toNat)
      case atStart => exact ⟨0, by omega, rfl, 0, rfl⟩
      case round =>
        obtain ⟨j, hj, rfl, hwr⟩ := hrel
        have HN : Hid (∃ nq, wr = wo.drewN nq) := hwr
        have R3 : Hid (wr.rowIs w.heap.size 4 nl (fun i => .bool (sn i)) ∧ Below w.heap.size w wr) := by
          obtain ⟨nq, rfl⟩ := hwr
          exact ⟨R2.out.1.of_block rfl, below_drw R2.out.2.1 nq⟩
        clear hwr
        by_cases hjn : j < nl
        · have b9 : (j : Int) < (nl : Int) := by omega
          have f1 := R3.out.1.cell hjn
          by_cases hsn : sn j = true
          · rw [hsn] at f1
            clear hsn
            go_wp2
            go_quiet (fail)
            go_wp2
            go_roundw
            case rel => exact ⟨j + 1, by omega, by go_num, drewN_ex HN.out _⟩
            case measure => simp [intOf]; omega
          · have hsf : sn j = false := by simpa using hsn
            rw [hsf] at f1
            have es : f j = g j := H.out.2.2.2 j hjn (fun i hi e => hsn ((R2.out.2.2 j).mpr ⟨i, hi, e⟩))
            have f2 := (row_below H.out.2.2.1.1 R3.out.2 H.out.2.2.1.1.lt).cell hjn
            have f3 := (row_below H.out.2.2.1.2.1 R3.out.2 H.out.2.2.1.2.1.lt).cell hjn
            rw [es] at f2
            clear hsn hsf es
            go_wp2
            go_quiet (fail)
            go_wp2
            go_roundw
            case rel => exact ⟨j + 1, by omega, by go_num, drewN_ex HN.out _⟩
            case measure => simp [intOf]; omega
        · have b9 : ¬ (j : Int) < (nl : Int) := by omega
          go_wp2
          go_ret
          exact ⟨rfl, R3.out.2⟩
end Go.Proofs.Qxb6601138a.Hf
