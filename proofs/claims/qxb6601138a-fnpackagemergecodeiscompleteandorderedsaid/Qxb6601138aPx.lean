import Derived.Test.Qxb6601138aPw
namespace Go.Proofs.Qxb6601138a.Hf
open Go.RowKit Gw
set_option linter.unusedVariables false

/-- The memory of a call of zzPoolDepths. -/
structure PE (w wr : World) (Bv n N B : Nat) (L wt : Nat → Int) (al : Nat → Bool) (g d : Nat → Nat) : Prop where
  geo : w.heap.size = B ∧ Bv < B
  lv : wr.rowIs Bv 28 n (fun i => .int .u64 (L i))
  rw : wr.rowIs B 28 N (fun i => .int .u64 (wt i))
  ra : wr.rowIs (B + 1) 4 N (fun i => .bool (al i))
  rg : wr.rowIs (B + 2) 3 n (fun i => .int .i64 (g i : Int))
  rd : wr.rowIs (B + 3) 28 n (fun i => .int .u64 (d i : Int))
  bel : Below w.heap.size w wr
section
variable {w wr : World} {Bv n N B : Nat} {L wt : Nat → Int} {al : Nat → Bool} {g d : Nat → Nat}
theorem PE.drewN (h : PE w wr Bv n N B L wt al g d) (k : Nat) : PE w (wr.drewN k) Bv n N B L wt al g d := ⟨h.geo, h.lv, h.rw, h.ra, h.rg, h.rd, ⟨h.bel.os, h.bel.tape, h.bel.output, h.bel.size, h.bel.block⟩⟩
theorem PE.setW (h : PE w wr Bv n N B L wt al g d) (i : Nat) (v : Int) : PE w (wr.setCell ⟨B, i, none⟩ (.int .u64 v)) Bv n N B L (upd wt i v) al g d := by
  have q := h.geo
  refine ⟨q, h.lv.setOther (show Bv ≠ B by omega) _, (h.rw.set i _).congr (fun j hj => ?_), h.ra.setOther (show B + 1 ≠ B by omega) _, h.rg.setOther (show B + 2 ≠ B by omega) _, h.rd.setOther (show B + 3 ≠ B by omega) _, h.bel.setCell (show w.heap.size ≤ B by omega) _⟩
  by_cases e : j = i
  · subst e; rw [if_pos rfl, upd_same]
  · rw [if_neg e, upd_ne e]
theorem PE.setA (h : PE w wr Bv n N B L wt al g d) (i : Nat) (v : Bool) : PE w (wr.setCell ⟨B + 1, i, none⟩ (.bool v)) Bv n N B L wt (upd al i v) g d := by
  have q := h.geo
  refine ⟨q, h.lv.setOther (show Bv ≠ B + 1 by omega) _, h.rw.setOther (show B ≠ B + 1 by omega) _, (h.ra.set i _).congr (fun j hj => ?_), h.rg.setOther (show B + 2 ≠ B + 1 by omega) _, h.rd.setOther (show B + 3 ≠ B + 1 by omega) _, h.bel.setCell (show w.heap.size ≤ B + 1 by omega) _⟩
  by_cases e : j = i
  · subst e; rw [if_pos rfl, upd_same]
  · rw [if_neg e, upd_ne e]
theorem PE.setG (h : PE w wr Bv n N B L wt al g d) (i v : Nat) : PE w (wr.setCell ⟨B + 2, i, none⟩ (.int .i64 (v : Int))) Bv n N B L wt al (upd g i v) d := by
  have q := h.geo
  refine ⟨q, h.lv.setOther (show Bv ≠ B + 2 by omega) _, h.rw.setOther (show B ≠ B + 2 by omega) _, h.ra.setOther (show B + 1 ≠ B + 2 by omega) _, (h.rg.set i _).congr (fun j hj => ?_), h.rd.setOther (show B + 3 ≠ B + 2 by omega) _, h.bel.setCell (show w.heap.size ≤ B + 2 by omega) _⟩
  by_cases e : j = i
  · subst e; rw [if_pos rfl, upd_same]
  · rw [if_neg e, upd_ne e]
theorem PE.setD (h : PE w wr Bv n N B L wt al g d) (i v : Nat) : PE w (wr.setCell ⟨B + 3, i, none⟩ (.int .u64 (v : Int))) Bv n N B L wt al g (upd d i v) := by
  have q := h.geo
  refine ⟨q, h.lv.setOther (show Bv ≠ B + 3 by omega) _, h.rw.setOther (show B ≠ B + 3 by omega) _, h.ra.setOther (show B + 1 ≠ B + 3 by omega) _, h.rg.setOther (show B + 2 ≠ B + 3 by omega) _, (h.rd.set i _).congr (fun j hj => ?_), h.bel.setCell (show w.heap.size ≤ B + 3 by omega) _⟩
  by_cases e : j = i
  · subst e; rw [if_pos rfl, upd_same]
  · rw [if_neg e, upd_ne e]
end

theorem Lst.congr {m a : Nat} {w w' : Nat → Int} {al : Nat → Bool} (h : Lst m w al a) (e : ∀ x, x < m → w' x = w x) : Lst m w' al a :=
  ⟨h.lt, h.live, fun k hk hal => by rw [e a h.lt, e k hk]; exact h.le k hk hal, fun k hk hal => by rw [e a h.lt, e k (Nat.lt_trans hk h.lt)]; exact h.ls k hk hal⟩
theorem PE.start {w : World} {Bv n N : Nat} {L : Nat → Int} (hv : w.rowIs Bv 28 n (fun i => .int .u64 (L i))) :
    PE w ((((w.alloc (.cells (madeCells #[.int .u64 0] N) 28)).alloc (.cells (madeCells #[.bool false] N) 4)).alloc (.cells (madeCells #[.int .i64 0] n) 3)).alloc (.cells (madeCells #[.int .u64 0] n) 28)) Bv n N w.heap.size L (fun _ => 0) (fun _ => false) (fun _ => 0) (fun _ => 0) := by
  have e1 : (w.alloc (.cells (madeCells #[.int .u64 0] N) 28)).heap.size = w.heap.size + 1 := by simp
  have e2 : ((w.alloc (.cells (madeCells #[.int .u64 0] N) 28)).alloc (.cells (madeCells #[.bool false] N) 4)).heap.size = w.heap.size + 2 := by simp
  have e3 : (((w.alloc (.cells (madeCells #[.int .u64 0] N) 28)).alloc (.cells (madeCells #[.bool false] N) 4)).alloc (.cells (madeCells #[.int .i64 0] n) 3)).heap.size = w.heap.size + 3 := by simp
  have r1 := World.rowIs_made w (.int .u64 0) N 28
  have r2 := World.rowIs_made (w.alloc (.cells (madeCells #[.int .u64 0] N) 28)) (.bool false) N 4
  have r3 := World.rowIs_made ((w.alloc (.cells (madeCells #[.int .u64 0] N) 28)).alloc (.cells (madeCells #[.bool false] N) 4)) (.int .i64 0) n 3
  have r4 := World.rowIs_made (((w.alloc (.cells (madeCells #[.int .u64 0] N) 28)).alloc (.cells (madeCells #[.bool false] N) 4)).alloc (.cells (madeCells #[.int .i64 0] n) 3)) (.int .u64 0) n 28
  rw [e1] at r2
  rw [e2] at r3
  rw [e3] at r4
  exact ⟨⟨rfl, hv.lt⟩, (((hv.alloc _).alloc _).alloc _).alloc _, ((r1.alloc _).alloc _).alloc _, (r2.alloc _).alloc _, r3.alloc _, r4, ((((Below.refl _ _).alloc (Nat.le_refl _) _).alloc (by simp) _).alloc (by simp; omega) _).alloc (by simp; omega) _⟩
theorem light_at (w : World) (Bw Ba N m a : Nat) (v : Int) (hv : v = (m : Int)) (wt : Nat → Int) (al : Nat → Bool) (hm : m ≤ N) (hN : N ≤ 8191) (wb : ∀ k, k < m → 0 ≤ wt k ∧ wt k ≤ 1152921504606846976) (h : Lst m wt al a) (hw : w.rowIs Bw 28 N (fun i => .int .u64 (wt i))) (ha : w.rowIs Ba 4 N (fun i => .bool (al i))) :
    Calls Try.prog 27 #[.slice (some ⟨Bw, 0, none⟩) N N, .slice (some ⟨Ba, 0, none⟩) N N, .int .i64 v] w fun e w' => e = .returned (.int .i64 (a : Int)) ∧ ∃ k, w' = w.drewN k := by
  subst hv; exact light_any w Bw Ba N m a wt al hm hN wb h hw ha
/-- What zzPoolDepths comes to. -/
def PPost (w : World) (n : Nat) (L : Nat → Int) (e : Ending) (w' : World) : Prop :=
  ∃ (B : Nat) (dep : Nat → Nat), w.heap.size ≤ B ∧ e = .returned (.slice (some ⟨B, 0, none⟩) n n) ∧ w'.rowIs B 28 n (fun i => .int .u64 (dep i : Int)) ∧ Below w.heap.size w w' ∧ (∀ i, i < n → dep i ≤ 4096) ∧
    ∀ d, Dep n (qs n (lwt L) (n - 1)).ip d → ∀ i, i < n → dep i = dl (qs n (lwt L) (n - 1)).lp d i

set_option maxRecDepth 100000 in
set_option maxHeartbeats 8000000 in
theorem pool_any (w : World) (Bv nl n : Nat) (L : Nat → Int) (hL : Hid (Lv n nl L)) (hv : w.rowIs Bv 28 n (fun i => .int .u64 (L i))) :
    Calls Try.prog 12 #[.slice (some ⟨Bv, 0, none⟩) n n] w fun e w' => PPost w n L e w' := by
  obtain ⟨hn1, hn2, hnl⟩ := hL.out.n2
  have HV : Hid (w.rowIs Bv 28 n (fun i => .int .u64 (L i))) := hv
  clear hv
  obtain ⟨N, hN⟩ : ∃ N : Nat, 2 * n - 1 = N := ⟨_, rfl⟩
  have c1 : 2 * (n : Int) - 1 = (N : Int) := by omega
  have k1 := run_make_row' 23 28 (.int .u64 0) 8 Try.underlying23 info28 rfl .i64 .i64 N (by omega) (by omega)
  have k2 := run_make_row' 38 4 (.bool false) 1 Try.underlying38 info4 rfl .i64 .i64 N (by omega) (by omega)
  have k3 := run_make_row' 31 3 (.int .i64 0) 8 Try.underlying31 info3 rfl .i64 .i64 n (by omega) (by omega)
  have k4 := run_make_row' 23 28 (.int .u64 0) 8 Try.underlying23 info28 rfl .i64 .i64 n (by omega) (by omega)
  go_enter Try.func12, Try.ntmps12
  go_wp2
  clear k1 k2 k3 k4
  have E0 := PE.start (N := N) HV.out
  obtain ⟨B, hB⟩ : ∃ B, w.heap.size = B := ⟨_, rfl⟩
  rw [hB] at E0
  simp only [hB, Nat.add_assoc, Nat.reduceAdd]
  obtain ⟨W0, hW0⟩ : ∃ W0, ((((w.alloc (.cells (madeCells #[.int .u64 0] N) 28)).alloc (.cells (madeCells #[.bool false] N) 4)).alloc (.cells (madeCells #[.int .i64 0] n) 3)).alloc (.cells (madeCells #[.int .u64 0] n) 28)) = W0 := ⟨_, rfl⟩
  rw [hW0] at E0
  simp only [hW0]
  have EE : Hid (PE w W0 Bv n N B L (fun _ => 0) (fun _ => false) (fun _ => 0) (fun _ => 0)) := E0
  have HBB : Hid (w.heap.size = B) := hB
  clear E0 hW0 hB HV
  have hls := hL.out.srt
  have hlp := hL.out.pos
  have LS : Hid ((∀ i j, i ≤ j → j < n → lwt L i ≤ lwt L j) ∧ (∀ i, i < n → 0 ≤ lwt L i) ∧ sm (lwt L) n ≤ 1152921504606846976) := ⟨hls, hlp, hL.out.tot⟩
  clear hls hlp
  go_loopw [8] (fun ri wr => ∃ (k : Nat) (wt : Nat → Int) (g : Nat → Nat), k ≤ n ∧ ri = .int .i64 (k : Int) ∧ PE w wr Bv n N B L wt (fun j => decide (j < k)) g (fun _ => 0) ∧ ∀ j, j < k → wt j = lwt L j ∧ g j = j) (fun ri _ => n - (intOf ri).toNat)
  case atStart => exact ⟨0, fun _ => 0, fun _ => 0, by omega, rfl, by simpa using EE.out, fun j hj => by omega⟩
  case round =>
    clear EE
    obtain ⟨k, wt, g, hk, rfl, he, hj⟩ := hrel
    have E1 : Hid (PE w wr Bv n N B L wt (fun j => decide (j < k)) g (fun _ => 0) ∧ ∀ j, j < k → wt j = lwt L j ∧ g j = j) := ⟨he, hj⟩
    clear he hj
    by_cases hlt : k < n
    · have b1 : (k : Int) < (n : Int) := by omega
      have b2 : (k : Int) < (N : Int) := by omega
      have l1 : 0 ≤ L k := (hL.out.rng k hlt).1
      have l2 : L k ≤ 18446744073709551615 := (hL.out.rng k hlt).2
      have f1 := E1.out.1.lv.cell hlt
      have f2 := E1.out.1.rw.cell (i := k) (by omega)
      have f3 := E1.out.1.rw.frozen k
      have E2 := E1.out.1.setW k (wI (L k))
      have E3 := E2.setA k true
      have E4 := E3.setG k k
      have f4 := E2.ra.cell (i := k) (by omega)
      have f5 := E2.ra.frozen k
      have f6 := E3.rg.cell hlt
      have f7 := E3.rg.frozen k
      have NX : Hid (PE w (((wr.setCell ⟨B, k, none⟩ (.int .u64 (wI (L k)))).setCell ⟨B + 1, k, none⟩ (.bool true)).setCell ⟨B + 2, k, none⟩ (.int .i64 (k : Int))) Bv n N B L (upd wt k (wI (L k))) (upd (fun j => decide (j < k)) k true) (upd g k k) (fun _ => 0)) := E4
      clear E2 E3 E4
      go_wp2_with (go_at_call 22; refine (weight22 _ l1 l2 _).mono ?_; rintro e w' ⟨rfl, rfl⟩)
      go_roundw
      case rel =>
        refine ⟨k + 1, upd wt k (wI (L k)), upd g k k, by omega, by go_num, ?_, fun j hj => ?_⟩
        · have e : (fun j => decide (j < k + 1)) = upd (fun j => decide (j < k)) k true := by
            funext j
            by_cases e : j = k
            · rw [e, upd_same]; exact decide_eq_true (by omega)
            · rw [upd_ne e]; exact decide_eq_decide.mpr (by omega)
          rw [e]; exact NX.out
        · by_cases e : j = k
          · rw [e, upd_same, upd_same]; exact ⟨rfl, rfl⟩
          · rw [upd_ne e, upd_ne e]; exact E1.out.2 j (by omega)
      case measure => simp [intOf]; omega
    · have ekn : k = n := by omega
      have b1 : ¬ (k : Int) < (n : Int) := by omega
      have E2 : Hid (PE w wr Bv n N B L wt (alv n 0 (qs n (lwt L) 0)) g (fun _ => 0) ∧ (∀ x, x < n + 0 → wt x = itw n (lwt L) (qs n (lwt L) 0) x) ∧ ∀ j, j < n → GA n 0 (qs n (lwt L) 0) (g j) 0 j) := by
        have e : alv n 0 (qs n (lwt L) 0) = (fun j => decide (j < k)) := by
          funext j
          have e1 : (qs n (lwt L) 0).l = 0 := rfl
          have e2 : (qs n (lwt L) 0).q = 0 := rfl
          unfold alv
          rw [e1, e2, ekn]
          exact decide_eq_decide.mpr (by omega)
        rw [e]
        refine ⟨E1.out.1, fun x hx => ?_, fun j hj => ?_⟩
        · have := (E1.out.2 x (by omega)).1
          rw [this]; unfold itw; rw [if_pos (by omega)]
        · rw [(E1.out.2 j (by omega)).2]; exact GA.start j hj
      clear E1 ekn
      go_wp2
      obtain ⟨wo, rfl⟩ : ∃ wo : World, wo = wr := ⟨_, rfl⟩
      go_loopw [9] (fun ri wr => ∃ (t : Nat) (wt : Nat → Int) (g d : Nat → Nat), t + 1 ≤ n ∧ ri = .int .i64 (t : Int) ∧ PE w wr Bv n N B L wt (alv n t (qs n (lwt L) t)) g d ∧ (∀ x, x < n + t → wt x = itw n (lwt L) (qs n (lwt L) t) x) ∧ ∀ j, j < n → GA n t (qs n (lwt L) t) (g j) (d j) j) (fun ri _ => n - (intOf ri).toNat)
      case atStart => exact ⟨0, wt, g, fun _ => 0, by omega, rfl, E2.out.1, E2.out.2.1, E2.out.2.2⟩
      case round =>
        clear E2
        obtain ⟨t, wt, g, d, ht, rfl, he, hw, hg⟩ := hrel
        have E3 : Hid (PE w wr Bv n N B L wt (alv n t (qs n (lwt L) t)) g d ∧ (∀ x, x < n + t → wt x = itw n (lwt L) (qs n (lwt L) t) x) ∧ ∀ j, j < n → GA n t (qs n (lwt L) t) (g j) (d j) j) := ⟨he, hw, hg⟩
        clear he hw hg
        by_cases htn : t + 2 ≤ n
        · have b2 : (t : Int) < (n : Int) - 1 := by omega
          have tp := two_picks (lw := lwt L) (by omega) LS.out.1 LS.out.2.1 htn
          have wb : ∀ x, x < n + t → 0 ≤ wt x ∧ wt x ≤ 1152921504606846976 := fun x hx => by
            rw [E3.out.2.1 x hx]
            have := itw_bnd (lw := lwt L) (by omega) LS.out.1 LS.out.2.1 htn x hx
            exact ⟨this.1, Int.le_trans this.2 LS.out.2.2⟩
          have l1 := tp.1.congr E3.out.2.1
          have l2 := tp.2.congr E3.out.2.1
          obtain ⟨a, ha⟩ : ∃ a, pit n (lwt L) t (qs n (lwt L) t) = a := ⟨_, rfl⟩
          obtain ⟨b, hb⟩ : ∃ b, pit n (lwt L) t (pk1 n (lwt L) t (qs n (lwt L) t)) = b := ⟨_, rfl⟩
          rw [ha] at l1 l2
          rw [hb] at l2
          have a1 := l1.lt
          have a2 := l2.lt
          have PK : Hid (pit n (lwt L) t (qs n (lwt L) t) = a ∧ pit n (lwt L) t (pk1 n (lwt L) t (qs n (lwt L) t)) = b) := ⟨ha, hb⟩
          have LL : Hid (Lst (n + t) wt (alv n t (qs n (lwt L) t)) a ∧ Lst (n + t) wt (upd (alv n t (qs n (lwt L) t)) a false) b ∧ ∀ x, x < n + t → 0 ≤ wt x ∧ wt x ≤ 1152921504606846976) := ⟨l1, l2, wb⟩
          clear tp wb l1 l2 ha hb
          go_wp2_with fail
          refine (light_at _ B (B + 1) N (n + t) a _ (by omega) wt _ (by omega) (by omega) LL.out.2.2 LL.out.1 E3.out.1.rw E3.out.1.ra).mono ?_
          rintro e w1 ⟨rfl, q1, rfl⟩
          have E4 : Hid (PE w (wr.drewN q1) Bv n N B L wt (alv n t (qs n (lwt L) t)) g d) := E3.out.1.drewN q1
          obtain ⟨w1, hw1⟩ : ∃ w1, wr.drewN q1 = w1 := ⟨_, rfl⟩
          rw [hw1] at E4 ⊢
          clear hw1
          have f1 := E4.out.ra.cell (i := a) (by omega)
          have f2 := E4.out.ra.frozen a
          have b3 : (a : Int) < (N : Int) := by omega
          have E5 : Hid (PE w (w1.setCell ⟨B + 1, a, none⟩ (.bool false)) Bv n N B L wt (upd (alv n t (qs n (lwt L) t)) a false) g d) := E4.out.setA a false
          go_wp2_with fail
          clear f1 f2 E4
          refine (light_at _ B (B + 1) N (n + t) b _ (by omega) wt _ (by omega) (by omega) LL.out.2.2 LL.out.2.1 E5.out.rw E5.out.ra).mono ?_
          rintro e w2 ⟨rfl, q2, rfl⟩
          have E6 : Hid (PE w ((w1.setCell ⟨B + 1, a, none⟩ (.bool false)).drewN q2) Bv n N B L wt (upd (alv n t (qs n (lwt L) t)) a false) g d) := E5.out.drewN q2
          obtain ⟨w2, hw2⟩ : ∃ w2, (w1.setCell ⟨B + 1, a, none⟩ (.bool false)).drewN q2 = w2 := ⟨_, rfl⟩
          rw [hw2] at E6 ⊢
          clear hw2 E5
          have f1 := E6.out.ra.cell (i := b) (by omega)
          have f2 := E6.out.ra.frozen b
          have b4 : (b : Int) < (N : Int) := by omega
          have b5 : (n : Int) + (t : Int) < (N : Int) := by omega
          have E7 : Hid (PE w (w2.setCell ⟨B + 1, b, none⟩ (.bool false)) Bv n N B L wt (upd (upd (alv n t (qs n (lwt L) t)) a false) b false) g d) := E6.out.setA b false
          have f3 : (w2.setCell ⟨B + 1, b, none⟩ (.bool false)).cell? ⟨B, a, none⟩ = some (.int .u64 (wt a)) := E7.out.rw.cell (by omega)
          have f4 : (w2.setCell ⟨B + 1, b, none⟩ (.bool false)).cell? ⟨B, b, none⟩ = some (.int .u64 (wt b)) := E7.out.rw.cell (by omega)
          have f5 : (w2.setCell ⟨B + 1, b, none⟩ (.bool false)).cell? ⟨B, n + t, none⟩ = some (.int .u64 (wt (n + t))) := E7.out.rw.cell (by omega)
          have f6 := E7.out.rw.frozen (n + t)
          have w3 := (LL.out.2.2 a a1).1
          have w4 := (LL.out.2.2 a a1).2
          have w5 := (LL.out.2.2 b a2).1
          have w6 := (LL.out.2.2 b a2).2
          go_wp2_with fail
          obtain ⟨W3, hW3⟩ : ∃ W3, (w2.setCell ⟨B + 1, b, none⟩ (.bool false)) = W3 := ⟨_, rfl⟩
          rw [hW3] at E7 f3 f4 f5 f6 ⊢
          clear hW3 f1 f2 E6
          have E8 : Hid (PE w (W3.setCell ⟨B, n + t, none⟩ (.int .u64 (wt a + wt b))) Bv n N B L (upd wt (n + t) (wt a + wt b)) (upd (upd (alv n t (qs n (lwt L) t)) a false) b false) g d) := E7.out.setW (n + t) _
          have f7 : (W3.setCell ⟨B, n + t, none⟩ (.int .u64 (wt a + wt b))).cell? ⟨B + 1, n + t, none⟩ = some (.bool (upd (upd (alv n t (qs n (lwt L) t)) a false) b false (n + t))) := E8.out.ra.cell (i := n + t) (by omega)
          have f8 := E8.out.ra.frozen (n + t)
          go_region
          clear f3 f4 f5 f6
          go_wp2
          clear f7 f8
          have NA : Hid (upd (upd (upd (alv n t (qs n (lwt L) t)) a false) b false) (n + t) true = alv n (t + 1) (qs n (lwt L) (t + 1))) := by
            have h := alv_next (lw := lwt L) (by omega) LS.out.1 LS.out.2.1 htn
            rw [PK.out.1, PK.out.2] at h
            exact h.symm
          have NW : Hid (∀ x, x < n + (t + 1) → upd wt (n + t) (wt a + wt b) x = itw n (lwt L) (qs n (lwt L) (t + 1)) x) := fun x hx => by
            have h := itw_next (lw := lwt L) (n := n) (t := t) (by omega) x (by omega)
            rw [PK.out.1, PK.out.2, ← E3.out.2.1 a a1, ← E3.out.2.1 b a2] at h
            rw [← h]
            by_cases e : x = n + t
            · rw [e, upd_same, upd_same]
            · rw [upd_ne e, upd_ne e]; exact E3.out.2.1 x (by omega)
          go_loopw [13] (fun ri wr => ∃ (k : Nat) (g d : Nat → Nat), k ≤ n ∧ ri = .int .i64 (k : Int) ∧ PE w wr Bv n N B L (upd wt (n + t) (wt a + wt b)) (alv n (t + 1) (qs n (lwt L) (t + 1))) g d ∧ (∀ j, j < k → GA n (t + 1) (qs n (lwt L) (t + 1)) (g j) (d j) j) ∧ ∀ j, k ≤ j → j < n → GA n t (qs n (lwt L) t) (g j) (d j) j) (fun ri _ => n - (intOf ri).toNat)
          case atStart =>
            refine ⟨0, g, d, by omega, rfl, ?_, fun j hj => by omega, fun j _ hj => E3.out.2.2 j hj⟩
            rw [← NA.out]
            first | exact (E8.out.drewN 1).setA _ _ | exact (E8.out.setA _ _).drewN 1
          case round =>
            clear E8 E7 E3 LL
            obtain ⟨k, g, d, hk, rfl, he, hg1, hg2⟩ := hrel
            have E9 : Hid (PE w wr Bv n N B L (upd wt (n + t) (wt a + wt b)) (alv n (t + 1) (qs n (lwt L) (t + 1))) g d ∧ (∀ j, j < k → GA n (t + 1) (qs n (lwt L) (t + 1)) (g j) (d j) j) ∧ ∀ j, k ≤ j → j < n → GA n t (qs n (lwt L) t) (g j) (d j) j) := ⟨he, hg1, hg2⟩
            clear he hg1 hg2
            by_cases hkn : k < n
            · have b6 : (k : Int) < (n : Int) := by omega
              have f1 := E9.out.1.rg.cell hkn
              have dk := (E9.out.2.2 k (Nat.le_refl _) hkn).2.1
              have gk := alv_iff.mp (E9.out.2.2 k (Nat.le_refl _) hkn).1
              by_cases hga : g k = a ∨ g k = b
              · have f2 := E9.out.1.rg.frozen k
                have f3 := E9.out.1.rd.cell hkn
                have f4 := E9.out.1.rd.frozen k
                have f5 := (E9.out.1.setD k (d k + 1)).rg.cell hkn
                have f6 := (E9.out.1.setD k (d k + 1)).rg.frozen k
                have NX : Hid (PE w ((wr.setCell ⟨B + 3, k, none⟩ (.int .u64 ((d k + 1 : Nat) : Int))).setCell ⟨B + 2, k, none⟩ (.int .i64 ((n + t : Nat) : Int))) Bv n N B L (upd wt (n + t) (wt a + wt b)) (alv n (t + 1) (qs n (lwt L) (t + 1))) (upd g k (n + t)) (upd d k (d k + 1))) := (E9.out.1.setD k (d k + 1)).setG k (n + t)
                have NG : Hid (GA n (t + 1) (qs n (lwt L) (t + 1)) (n + t) (d k + 1) k) := (E9.out.2.2 k (Nat.le_refl _) hkn).join (by omega) LS.out.1 LS.out.2.1 htn (by rw [PK.out.1, PK.out.2]; exact hga)
                clear gk
                by_cases hg1 : g k = a
                · have d1 : ((g k : Int) == (a : Int)) = true := by rw [beq_iff_eq, hg1]
                  clear hga hg1
                  go_wp2
                  go_roundw
                  case rel =>
                    refine ⟨k + 1, upd g k (n + t), upd d k (d k + 1), by omega, by go_num, ?_, fun j hj => ?_, fun j h1 h2 => ?_⟩
                    · have h := NX.out
                      rw [show ((d k + 1 : Nat) : Int) = (d k : Int) + 1 by omega, show ((n + t : Nat) : Int) = (n : Int) + (t : Int) by omega] at h
                      exact h
                    · by_cases e : j = k
                      · rw [e, upd_same, upd_same]; exact NG.out
                      · rw [upd_ne e, upd_ne e]; exact E9.out.2.1 j (by omega)
                    · rw [upd_ne (by omega), upd_ne (by omega)]; exact E9.out.2.2 j (by omega) h2
                  case measure => simp [intOf]; omega
                · have d1 : ((g k : Int) == (a : Int)) = false := by rw [beq_eq_false_iff_ne]; omega
                  have d2 : ((g k : Int) == (b : Int)) = true := by rw [beq_iff_eq]; omega
                  clear hga hg1
                  go_wp2
                  go_roundw
                  case rel =>
                    refine ⟨k + 1, upd g k (n + t), upd d k (d k + 1), by omega, by go_num, ?_, fun j hj => ?_, fun j h1 h2 => ?_⟩
                    · have h := NX.out
                      rw [show ((d k + 1 : Nat) : Int) = (d k : Int) + 1 by omega, show ((n + t : Nat) : Int) = (n : Int) + (t : Int) by omega] at h
                      exact h
                    · by_cases e : j = k
                      · rw [e, upd_same, upd_same]; exact NG.out
                      · rw [upd_ne e, upd_ne e]; exact E9.out.2.1 j (by omega)
                    · rw [upd_ne (by omega), upd_ne (by omega)]; exact E9.out.2.2 j (by omega) h2
                  case measure => simp [intOf]; omega
              · have d1 : ((g k : Int) == (a : Int)) = false := by rw [beq_eq_false_iff_ne]; omega
                have d2 : ((g k : Int) == (b : Int)) = false := by rw [beq_eq_false_iff_ne]; omega
                have NG : Hid (GA n (t + 1) (qs n (lwt L) (t + 1)) (g k) (d k) k) := (E9.out.2.2 k (Nat.le_refl _) hkn).keep (by omega) LS.out.1 LS.out.2.1 htn (by rw [PK.out.1]; omega) (by rw [PK.out.2]; omega)
                clear hga gk
                go_wp2
                go_roundw
                case rel =>
                  refine ⟨k + 1, g, d, by omega, by go_num, E9.out.1, fun j hj => ?_, fun j h1 h2 => E9.out.2.2 j (by omega) h2⟩
                  by_cases e : j = k
                  · rw [e]; exact NG.out
                  · exact E9.out.2.1 j (by omega)
                case measure => simp [intOf]; omega
            · have b6 : ¬ (k : Int) < (n : Int) := by omega
              have E10 : Hid (PE w wr Bv n N B L (upd wt (n + t) (wt a + wt b)) (alv n (t + 1) (qs n (lwt L) (t + 1))) g d ∧ ∀ j, j < n → GA n (t + 1) (qs n (lwt L) (t + 1)) (g j) (d j) j) := ⟨E9.out.1, fun j hj => E9.out.2.1 j (by omega)⟩
              clear E9
              go_wp2
              go_roundw
              case rel => exact ⟨t + 1, _, g, d, by omega, by go_num, E10.out.1, NW.out, E10.out.2⟩
              case measure => simp [intOf]; omega
        · have b2 : ¬ (t : Int) < (n : Int) - 1 := by omega
          have etn : t = n - 1 := by omega
          have P1 : Hid (PPost w n L (.returned (.slice (some ⟨B + 3, 0, none⟩) n n)) wr) := by
            refine ⟨B + 3, d, by have := HBB.out; omega, rfl, E3.out.1.rd, E3.out.1.bel, fun i hi => ?_, fun dd hd i hi => ?_⟩
            · have := (E3.out.2.2 i hi).2.1; omega
            · have h := E3.out.2.2 i hi
              rw [etn] at h
              exact h.done hn1 LS.out.1 LS.out.2.1 hi hd
          clear E3
          go_wp2
          go_ret
          exact P1.out
end Go.Proofs.Qxb6601138a.Hf
