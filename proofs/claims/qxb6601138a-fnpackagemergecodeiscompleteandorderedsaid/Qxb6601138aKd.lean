import Derived.Test.Qxb6601138aKc
namespace Go.Proofs.Qxb6601138a.Hf
open Go.RowKit Gw
set_option linter.unusedVariables false

set_option maxHeartbeats 4000000 in
theorem kraft_any (w : World) (Bl n M : Nat) (D : Nat → Nat) (hn : n ≤ 4096) (hM : M ≤ 255) (hr : ∀ i, i < n → 1 ≤ D i ∧ D i ≤ M) (hk : sm (fun i => ((2 ^ (M - D i) : Nat) : Int)) n = ((2 ^ M : Nat) : Int)) (h1 : w.rowIs Bl 3 n (fun i => .int .i64 (D i : Int))) :
    Calls Try.prog 18 #[.slice (some ⟨Bl, 0, none⟩) n n, .int .i64 (M : Int)] w fun e w' => e = .returned (.bool true) ∧ Below w.heap.size w w' := by
  have H : Hid ((∀ i, i < n → 1 ≤ D i ∧ D i ≤ M) ∧ sm (fun i => ((2 ^ (M - D i) : Nat) : Int)) n = ((2 ^ M : Nat) : Int) ∧ w.rowIs Bl 3 n (fun i => .int .i64 (D i : Int))) := ⟨hr, hk, h1⟩
  clear hr hk h1
  obtain ⟨N, hN⟩ : ∃ N, M + 1 = N := ⟨_, rfl⟩
  have c1 : (M : Int) + 1 = (N : Int) := by omega
  have k1 := run_make_row' 31 3 (.int .i64 0) 8 Try.underlying31 info3 rfl .i64 .i64 N (by omega) (by omega)
  go_enter Try.func18, Try.ntmps18
  go_wp2
  clear k1 c1
  go_loopw [6] (fun ri wr => ∃ k : Nat, k ≤ n ∧ ri = .int .i64 (k : Int) ∧ wr.rowIs w.heap.size 3 N (fun d => .int .i64 (cn D k d)) ∧ Below w.heap.size w wr) (fun ri _ => n - (intOf ri).toNat)
  case atStart => exact ⟨0, by omega, rfl, World.rowIs_made w (.int .i64 0) N 3, (Below.refl _ _).alloc (Nat.le_refl _) _⟩
  case round =>
    obtain ⟨k, hk, rfl, hr, hbl⟩ := hrel
    have R : Hid (wr.rowIs w.heap.size 3 N (fun d => .int .i64 (cn D k d)) ∧ Below w.heap.size w wr) := ⟨hr, hbl⟩
    clear hr hbl
    by_cases hlt : k < n
    · have f1 := (row_below H.out.2.2 R.out.2 H.out.2.2.lt).cell hlt
      have d1 := (H.out.1 k hlt).1
      have d2 := (H.out.1 k hlt).2
      have f2 := R.out.1.cell (i := D k) (by omega)
      have f3 := R.out.1.frozen (D k)
      have b1 : (k : Int) < (n : Int) := by omega
      have b2 : (D k : Int) < (N : Int) := by omega
      have b3 : ¬ (D k : Int) < 1 := by omega
      have b4 : ¬ (D k : Int) > (M : Int) := by omega
      have g1 := (cn_bnd D k (D k)).1
      have g2 := (cn_bnd D k (D k)).2
      have NX : Hid ((wr.setCell ⟨w.heap.size, D k, none⟩ (.int .i64 (cn D k (D k) + 1))).rowIs w.heap.size 3 N (fun d => .int .i64 (cn D (k + 1) d))) := by
        rw [cn_succ]
        refine (R.out.1.set _ _).congr (fun j hj => ?_)
        by_cases e : j = D k
        · subst e; rw [if_pos rfl, upd_same]
        · rw [if_neg e, upd_ne e]
      go_wp2
      go_roundw
      case rel => exact ⟨k + 1, by omega, by go_num, NX.out, R.out.2.setCell (by simp) _⟩
      case measure => simp [intOf]; omega
    · have R2 : Hid (wr.rowIs w.heap.size 3 N (fun d => .int .i64 (cn D n d)) ∧ Below w.heap.size w wr) := by
        have e : k = n := by omega
        rw [← e]; exact R.out
      have b1 : ¬ (k : Int) < (n : Int) := by omega
      clear R
      go_wp2
      go_loop [7, 8] (fun rc rd => ∃ (d : Nat) (c : Int), d ≤ M ∧ rd = .int .i64 (d : Int) ∧ rc = .int .i64 c ∧ dp D n M d = c * ((2 ^ (M - d) : Nat) : Int)) (fun _ rd => (intOf rd).toNat)
      case atStart => exact ⟨M, 0, by omega, rfl, rfl, by rw [dp_top D n M (fun i hi => (H.out.1 i hi).2)]; omega⟩
      case round =>
        obtain ⟨d, c, hd, rfl, rfl, hc⟩ := hrel
        have HC : Hid (dp D n M d = c * ((2 ^ (M - d) : Nat) : Int)) := hc
        have cb := carry_bnd hd hc
        obtain ⟨cb0, cb1⟩ := cb
        clear hc
        rcases Nat.eq_zero_or_pos d with rfl | hd0
        · have ec : c = 1 := by
            have h := HC.out
            rw [dp_zero D n M (fun i hi => (H.out.1 i hi).1), H.out.2.1] at h
            have hp := pow_pos' M
            have h3 : ((2 ^ M : Nat) : Int) * 1 = ((2 ^ M : Nat) : Int) * c := by
              rw [Int.mul_one, Int.mul_comm]; exact h
            exact (Int.eq_of_mul_eq_mul_left (by omega) h3).symm
          subst ec
          have b2 : ¬ ((0 : Nat) : Int) ≥ 1 := by omega
          go_wp2
          go_ret
          exact ⟨rfl, R2.out.2⟩
        · have f1 := R2.out.1.cell (i := d) (by omega)
          have g1 := (cn_bnd D n d).1
          have g2 := (cn_bnd D n d).2
          have hs : dp D n M (d - 1) = (cn D n d + c) * ((2 ^ (M - d) : Nat) : Int) := by
            rw [dp_step D n M d hd0, HC.out, Int.add_mul]; omega
          have ev := carry_even hd0 hd H.out.1 H.out.2.1 hs
          have b2 : (d : Int) ≥ 1 := by omega
          have b3 : (d : Int) < (N : Int) := by omega
          obtain ⟨q, hq⟩ : ∃ q, cn D n d + c = 2 * q := ⟨(cn D n d + c) / 2, by omega⟩
          have NX : Hid (dp D n M (d - 1) = q * ((2 ^ (M - (d - 1)) : Nat) : Int)) := by
            rw [hs, hq, show M - (d - 1) = M - d + 1 by omega, Nat.pow_succ, Int.natCast_mul, Int.mul_comm 2 q, Int.mul_assoc, Int.mul_comm _ ((2 : Nat) : Int)]; rfl
          clear hs
          go_wp2
          go_round
          case rel => exact ⟨d - 1, q, by omega, by rw [show ((d - 1 : Nat) : Int) = (d : Int) - 1 by omega], rfl, NX.out⟩
          case measure => simp [intOf]; omega

/-- What lies behind i: whether there is one, and its length. -/
def pv (D : Nat → Nat) (i : Nat) (h : Bool) (m : Int) : Prop := (i = 0 ∧ h = false) ∨ (0 < i ∧ h = true ∧ m = (D (i - 1) : Int))
/-- The least of i..j-1. -/
def mc (D : Nat → Nat) (i j : Nat) : Int := if j = i then (D i : Int) else (D (j - 1) : Int)
theorem mc_at (D : Nat → Nat) (i : Nat) : mc D i i = (D i : Int) := if_pos rfl
theorem mc_next (D : Nat → Nat) (i j : Nat) (h : i ≤ j) : mc D i (j + 1) = (D j : Int) := if_neg (by omega)
theorem mc_gt (D : Nat → Nat) (i j : Nat) (h : i < j) : mc D i j = (D (j - 1) : Int) := if_neg (by omega)
theorem mc_ge {D : Nat → Nat} {n i j : Nat} (anti : ∀ i j, i ≤ j → j < n → D j ≤ D i) (h : i ≤ j) (hj : j < n) : (D j : Int) ≤ mc D i j := by
  by_cases e : j = i
  · subst e; rw [mc_at]; omega
  · rw [mc_gt D i j (by omega)]; have := anti (j - 1) j (by omega) hj; omega

set_option maxHeartbeats 4000000 in
theorem lighter_any (w : World) (Bv Bl n : Nat) (L : Nat → Int) (D : Nat → Nat) (hn : n ≤ 4096) (rng : ∀ i, i < n → 0 ≤ L i ∧ L i ≤ 18446744073709551615) (hD : ∀ i, i < n → D i ≤ 255) (anti : ∀ i j, i ≤ j → j < n → D j ≤ D i) (h1 : w.rowIs Bv 28 n (fun i => .int .u64 (L i))) (h2 : w.rowIs Bl 3 n (fun i => .int .i64 (D i : Int))) :
    Calls Try.prog 19 #[.slice (some ⟨Bv, 0, none⟩) n n, .slice (some ⟨Bl, 0, none⟩) n n] w fun e w' => e = .returned (.bool true) ∧ Below w.heap.size w w' := by
  have H : Hid ((∀ i, i < n → 0 ≤ L i ∧ L i ≤ 18446744073709551615) ∧ (∀ i, i < n → D i ≤ 255) ∧ (∀ i j, i ≤ j → j < n → D j ≤ D i) ∧ w.rowIs Bv 28 n (fun i => .int .u64 (L i)) ∧ w.rowIs Bl 3 n (fun i => .int .i64 (D i : Int))) := ⟨rng, hD, anti, h1, h2⟩
  clear rng hD anti h1 h2
  go_enter Try.func19, Try.ntmps19
  go_wp2
  go_loopw [6, 7, 8] (fun rm rh ri wr => ∃ (i : Nat) (h : Bool) (m : Int), i ≤ n ∧ ri = .int .i64 (i : Int) ∧ rh = .bool h ∧ rm = .int .i64 m ∧ pv D i h m ∧ ∃ nq, wr = w.drewN nq) (fun _ _ ri _ => n - (intOf ri).toNat)
  case atStart => exact ⟨0, false, 0, by omega, rfl, rfl, rfl, Or.inl ⟨rfl, rfl⟩, 0, rfl⟩
  case round =>
    obtain ⟨i, h, m, hi, rfl, rfl, rfl, hp, hwr⟩ := hrel
    have HN : Hid (∃ nq, wr = w.drewN nq) := hwr
    have H2 : Hid (wr.rowIs Bv 28 n (fun i => .int .u64 (L i)) ∧ wr.rowIs Bl 3 n (fun i => .int .i64 (D i : Int)) ∧ Below w.heap.size w wr) := by
      obtain ⟨nq, rfl⟩ := hwr
      exact ⟨H.out.2.2.2.1.of_block rfl, H.out.2.2.2.2.of_block rfl, below_drw (Below.refl _ _) nq⟩
    have HP : Hid (pv D i h m) := hp
    clear hwr hp
    by_cases hin : i < n
    · have b1 : (i : Int) < (n : Int) := by omega
      have f1 := H2.out.2.1.cell hin
      go_wp2
      obtain ⟨wo, rfl⟩ : ∃ wo : World, wo = wr := ⟨_, rfl⟩
      go_loopw [9, 10, 11] (fun rj rx rn wr => ∃ j : Nat, i ≤ j ∧ j ≤ n ∧ rj = .int .i64 (j : Int) ∧ rx = .int .i64 (D i : Int) ∧ rn = .int .i64 (mc D i j) ∧ ∃ nq, wr = w.drewN nq) (fun rj _ _ _ => n - (intOf rj).toNat)
      case atStart => exact ⟨i, by omega, by omega, rfl, rfl, by rw [mc_at], HN.out⟩
      case round =>
        clear H2 HN f1
        obtain ⟨j, hij, hjn, rfl, rfl, rfl, hwr⟩ := hrel
        have HN : Hid (∃ nq, wr = w.drewN nq) := hwr
        have H2 : Hid (wr.rowIs Bv 28 n (fun i => .int .u64 (L i)) ∧ wr.rowIs Bl 3 n (fun i => .int .i64 (D i : Int)) ∧ Below w.heap.size w wr) := by
          obtain ⟨nq, rfl⟩ := hwr
          exact ⟨H.out.2.2.2.1.of_block rfl, H.out.2.2.2.2.of_block rfl, below_drw (Below.refl _ _) nq⟩
        clear hwr
        by_cases hj : j < n ∧ wI (L j) = wI (L i)
        · obtain ⟨hj1, hj2⟩ := hj
          have d1 : decide ((j : Int) < (n : Int)) = true := decide_eq_true (by omega)
          have d2 : (wI (L j) == wI (L i)) = true := by rw [beq_iff_eq]; exact hj2
          have b2 : (j : Int) < (n : Int) := by omega
          have f1 := H2.out.1.cell hj1
          have f2 := H2.out.1.cell hin
          have f3 := H2.out.2.1.cell hj1
          have l1 := (H.out.1 j hj1).1
          have l2 := (H.out.1 j hj1).2
          have m1 := (H.out.1 i hin).1
          have m2 := (H.out.1 i hin).2
          have e1 := H.out.2.2.1 i j hij hj1
          have b3 : ¬ (D j : Int) > (D i : Int) := by omega
          have e2 := mc_ge H.out.2.2.1 hij hj1
          clear hj2
          by_cases hlt : (D j : Int) < mc D i j
          · go_wp2
            go_quiet ((go_at_call 22; first | exact Calls.quiet_of_same (weight22 _ l1 l2 _) | exact Calls.quiet_of_same (weight22 _ m1 m2 _)))
            go_wp2
            go_roundw
            case rel => exact ⟨j + 1, by omega, by omega, by go_num, rfl, by rw [mc_next D i j hij], drewN_ex HN.out _⟩
            case measure => simp [intOf]; omega
          · have e3 : Hid (mc D i j = (D j : Int)) := by show mc D i j = (D j : Int); omega
            go_wp2
            go_quiet ((go_at_call 22; first | exact Calls.quiet_of_same (weight22 _ l1 l2 _) | exact Calls.quiet_of_same (weight22 _ m1 m2 _)))
            go_wp2
            go_roundw
            case rel => exact ⟨j + 1, by omega, by omega, by go_num, rfl, by rw [mc_next D i j hij, e3.out], drewN_ex HN.out _⟩
            case measure => simp [intOf]; omega
        · have hji : i < j := by
            rcases Nat.lt_or_ge i j with h3 | h3
            · exact h3
            · obtain rfl : i = j := by omega
              exact absurd ⟨hin, rfl⟩ hj
          have em : mc D i j = (D (j - 1) : Int) := mc_gt D i j hji
          rw [em]
          clear em
          have q1 := H.out.2.2.1 i (j - 1) (by omega) (by omega)
          by_cases hj1 : j < n
          · have d1 : decide ((j : Int) < (n : Int)) = true := decide_eq_true (by omega)
            have d2 : (wI (L j) == wI (L i)) = false := by rw [beq_eq_false_iff_ne]; exact fun e => hj ⟨hj1, e⟩
            have b2 : (j : Int) < (n : Int) := by omega
            have f1 := H2.out.1.cell hj1
            have f2 := H2.out.1.cell hin
            have l1 := (H.out.1 j hj1).1
            have l2 := (H.out.1 j hj1).2
            have m1 := (H.out.1 i hin).1
            have m2 := (H.out.1 i hin).2
            clear hj
            rcases HP.out with ⟨rfl, rfl⟩ | ⟨hi0, rfl, rfl⟩
            · clear HP
              go_wp2
              go_quiet ((go_at_call 22; first | exact Calls.quiet_of_same (weight22 _ l1 l2 _) | exact Calls.quiet_of_same (weight22 _ m1 m2 _)))
              go_wp2
              go_roundw
              case rel => exact ⟨j, true, (D (j - 1) : Int), by omega, rfl, rfl, rfl, Or.inr ⟨by omega, rfl, rfl⟩, drewN_ex HN.out _⟩
              case measure => simp [intOf]; omega
            · clear HP
              have q2 := H.out.2.2.1 (i - 1) i (by omega) hin
              have b5 : ¬ (D (i - 1) : Int) < (D i : Int) := by omega
              by_cases hlt : (D (j - 1) : Int) < (D (i - 1) : Int)
              · go_wp2
                go_quiet ((go_at_call 22; first | exact Calls.quiet_of_same (weight22 _ l1 l2 _) | exact Calls.quiet_of_same (weight22 _ m1 m2 _)))
                go_wp2
                go_roundw
                case rel => exact ⟨j, true, (D (j - 1) : Int), by omega, rfl, rfl, rfl, Or.inr ⟨by omega, rfl, rfl⟩, drewN_ex HN.out _⟩
                case measure => simp [intOf]; omega
              · have e3 : Hid ((D (i - 1) : Int) = (D (j - 1) : Int)) := by show (D (i - 1) : Int) = (D (j - 1) : Int); omega
                go_wp2
                go_quiet ((go_at_call 22; first | exact Calls.quiet_of_same (weight22 _ l1 l2 _) | exact Calls.quiet_of_same (weight22 _ m1 m2 _)))
                go_wp2
                go_roundw
                case rel => exact ⟨j, true, (D (i - 1) : Int), by omega, rfl, rfl, rfl, Or.inr ⟨by omega, rfl, e3.out⟩, drewN_ex HN.out _⟩
                case measure => simp [intOf]; omega
          · have d1 : decide ((j : Int) < (n : Int)) = false := decide_eq_false (by omega)
            clear hj
            rcases HP.out with ⟨rfl, rfl⟩ | ⟨hi0, rfl, rfl⟩
            · clear HP
              go_wp2
              go_quiet (fail)
              go_wp2
              go_roundw
              case rel => exact ⟨j, true, (D (j - 1) : Int), by omega, rfl, rfl, rfl, Or.inr ⟨by omega, rfl, rfl⟩, drewN_ex HN.out _⟩
              case measure => simp [intOf]; omega
            · clear HP
              have q2 := H.out.2.2.1 (i - 1) i (by omega) hin
              have b5 : ¬ (D (i - 1) : Int) < (D i : Int) := by omega
              by_cases hlt : (D (j - 1) : Int) < (D (i - 1) : Int)
              · go_wp2
                go_quiet (fail)
                go_wp2
                go_roundw
                case rel => exact ⟨j, true, (D (j - 1) : Int), by omega, rfl, rfl, rfl, Or.inr ⟨by omega, rfl, rfl⟩, drewN_ex HN.out _⟩
                case measure => simp [intOf]; omega
              · have e3 : Hid ((D (i - 1) : Int) = (D (j - 1) : Int)) := by show (D (i - 1) : Int) = (D (j - 1) : Int); omega
                go_wp2
                go_quiet (fail)
                go_wp2
                go_roundw
                case rel => exact ⟨j, true, (D (i - 1) : Int), by omega, rfl, rfl, rfl, Or.inr ⟨by omega, rfl, e3.out⟩, drewN_ex HN.out _⟩
                case measure => simp [intOf]; omega
    · have b1 : ¬ (i : Int) < (n : Int) := by omega
      go_wp2
      go_ret
      exact ⟨rfl, H2.out.2.2⟩
end Go.Proofs.Qxb6601138a.Hf
