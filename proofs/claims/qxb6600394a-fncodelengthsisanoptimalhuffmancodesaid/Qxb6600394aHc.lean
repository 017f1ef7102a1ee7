import Derived.Test.Qxb6600394aHk
namespace Go.Proofs.Qxb6600394a.Hf
open Go.RowKit
set_option linter.unusedVariables false

theorem ord_le {c : Nat → Int} {o : Nat → Nat} {n : Nat} (h : Ord c o n) : ∀ i j, i ≤ j → j < n → c (o i) ≤ c (o j) := by
  intro i j hij hj
  rcases Nat.eq_or_lt_of_le hij with e | e
  · subst e; exact Int.le_refl _
  · have := h.srt i j e hj; omega

set_option maxRecDepth 100000 in
set_option maxHeartbeats 8000000 in
theorem cl_any (w : World) (B Bc Bl n : Nat) (c : Nat → Int) (hn : 2 ≤ n) (hn2 : n ≤ 255) (hpos0 : Hid (∀ i, i < n → 1 ≤ c i)) (hsum0 : Hid (sm c n ≤ 1073741824))
   (hB : HB w B z0 z0 z0 z0 z0) (hC : w.rowIs Bc 3 n (fun i => .int .i64 (c i))) (hL : w.rowIs Bl 5 n (fun _ => .int .u8 0)) (h1 : Bc < Bl) (h2 : Bl < B) :
    Calls Try.prog 39 #[.pointer (some ⟨B, 0, none⟩), .slice (some ⟨Bc, 0, none⟩) n n, .slice (some ⟨Bl, 0, none⟩) n n] w fun e w' => e = .returned (.tuple #[]) ∧ ∃ len : Nat → Int, w'.rowIs Bl 5 n (fun i => .int .u8 (len i)) ∧ Good n c len ∧ Below Bl w w' := by
  have hBs : B < w.heap.size := hB.lt
  have E0 : Hid (Env w (w.alloc (.cells #[.int .i64 (n : Int)] 3)) B Bc Bl n c z0 z0 z0 z0 z0 z0) :=
    ⟨⟨h1, h2, hBs⟩, hB.alloc _, hC.alloc _, hL.alloc _, (Below.refl _ _).alloc (by omega) _, row_one w _ 3⟩
  clear hB hC hL
  have s48 := sl48 n hn2
  have s49 := sl49 n hn hn2
  go_enter Try.func39, Try.ntmps39
  go_wp2
  go_quiet (fail)
  go_wp2
  go_loopw [36] (fun r wr => ∃ (i : Nat) (o : Nat → Nat), i ≤ n ∧ r = .int .i64 (i : Int) ∧ Env w wr B Bc Bl n c (ci o) z0 z0 z0 z0 z0 ∧ Ord c o i) (fun r _ => n - (intOf r).toNat)
  case atStart => exact ⟨0, fun _ => 0, by omega, rfl, E0.out.drewN _, Ord.start _ _⟩
  case round =>
    obtain ⟨i, o, hi, rfl, he, ho⟩ := hrel
    have E1 : Hid (Env w wr B Bc Bl n c (ci o) z0 z0 z0 z0 z0 ∧ Ord c o i) := ⟨he, ho⟩
    clear he ho E0
    by_cases hlt : i < n
    · go_wp2
      obtain ⟨wo, rfl⟩ : ∃ wo : World, wo = wr := ⟨_, rfl⟩
      go_loopw [9] (fun r wr => ∃ (j : Nat) (o' : Nat → Nat), r = .int .i64 (j : Int) ∧ Env w wr B Bc Bl n c (ci o') z0 z0 z0 z0 z0 ∧ Ins c o o' i j) (fun r _ => (intOf r).toNat)
      case atStart => exact ⟨i, o, rfl, E1.out.1, Ins.start _ _ _⟩
      case round =>
        obtain ⟨j, o', rfl, he, hins⟩ := hrel
        have hji := hins.ji
        have E2 : Hid (Env w wr B Bc Bl n c (ci o') z0 z0 z0 z0 z0 ∧ Ins c o o' i j) := ⟨he, hins⟩
        clear he hins
        rcases Nat.eq_zero_or_pos j with rfl | hj
        · have hd : decide ((0 : Int) < ((0 : Nat) : Int)) = false := by decide
          have f1 := E2.out.1.hb.fz 0
          have f2 := E2.out.1.hb.rO (i := 0) (by omega)
          go_wp2_with fail
          go_quiet (fail)
          go_wp2
          go_roundw
          case rel => exact ⟨i + 1, upd o' 0 i, by omega, by go_num, by rw [← ci_upd]; exact (E2.out.1.drewN _).setO (by omega) _, E2.out.2.done E1.out.2 (Or.inl rfl)⟩
          case measure => simp [intOf]; omega
        · obtain ⟨j, rfl⟩ : ∃ j', j = j' + 1 := ⟨j - 1, by omega⟩
          have hoj : o' j < n := by
            have h3 := E2.out.2.lo j (by omega)
            have h4 := E1.out.2.rng j (by omega)
            omega
          have f1 : wr.cell? ⟨B, j, none⟩ = some (.int .i64 (o' j : Int)) := E2.out.1.hb.rO (by omega)
          have f2 : wr.cell? ⟨Bc, o' j, none⟩ = some (.int .i64 (c (o' j))) := E2.out.1.cc.cell hoj
          have f3 : wr.cell? ⟨Bc, i, none⟩ = some (.int .i64 (c i)) := E2.out.1.cc.cell hlt
          have f4 : wr.cell? ⟨B, j + 1, none⟩ = some (.int .i64 (o' (j + 1) : Int)) := E2.out.1.hb.rO (by omega)
          have f5 := E2.out.1.hb.fz (j + 1)
          by_cases hgt : c i < c (o' j)
          · go_wp2_with fail
            go_quiet (fail)
            go_wp2
            go_roundw
            case rel => exact ⟨j, upd o' (j + 1) (o' j), rfl, by rw [← ci_upd]; exact (E2.out.1.drewN _).setO (by omega) _, E2.out.2.step hgt⟩
            case measure => simp [intOf]
          · go_wp2_with fail
            go_quiet (fail)
            go_wp2
            go_roundw
            case rel => exact ⟨i + 1, upd o' (j + 1) i, by omega, by go_num, by rw [← ci_upd]; exact (E2.out.1.drewN _).setO (by omega) _, E2.out.2.done E1.out.2 (Or.inr (by simpa using hgt))⟩
            case measure => simp [intOf]; omega
    · have ein : i = n := by omega
      have E3 : Hid (Env w wr B Bc Bl n c (ci o) z0 z0 z0 z0 z0 ∧ Ord c o n) := ⟨E1.out.1, by rw [← ein]; exact E1.out.2⟩
      have fn : wr.cell? ⟨w.heap.size, 0, none⟩ = some (.int .i64 (n : Int)) := E1.out.1.nn.cell (by omega)
      have hws : w.heap.size < wr.heap.size := E1.out.1.nn.lt
      clear E1 ein
      go_wp2
      clear s48
      go_region
      go_wp2
      obtain ⟨V, hV⟩ : ∃ V, V = wr.heap.size := ⟨_, rfl⟩
      have HV : Hid (V = wr.heap.size) := hV
      rw [← hV]
      have hws2 : w.heap.size < V := by omega
      clear hV hws fn s49
      go_loopw [88] (fun r wr => ∃ (k : Nat) (wt : Nat → Int), k ≤ n ∧ r = .int .i64 (k : Int) ∧ Env w wr B Bc Bl n c (ci o) wt z0 z0 z0 z0 ∧ wr.rowIs V 22 1 (fun _ => .slice (some ⟨B, 255, none⟩) (2 * n - 1) 509) ∧ ∀ i, i < k → wt i = c (o i)) (fun r _ => n - (intOf r).toNat)
      case atStart => exact ⟨0, z0, by omega, rfl, (E3.out.1.alloc _).drewN _, by rw [HV.out]; exact (row_one wr _ 22).drew, fun i hi => by omega⟩
      case round =>
        obtain ⟨k, wt, hk, rfl, he, hv, hw⟩ := hrel
        have E4 : Hid (Env w wr B Bc Bl n c (ci o) wt z0 z0 z0 z0 ∧ wr.rowIs V 22 1 (fun _ => .slice (some ⟨B, 255, none⟩) (2 * n - 1) 509) ∧ ∀ i, i < k → wt i = c (o i)) := ⟨he, hv, hw⟩
        clear he hv hw
        by_cases hlt : k < n
        · have hok : o k < n := E3.out.2.rng k hlt
          have f1 : wr.cell? ⟨B, k, none⟩ = some (.int .i64 (o k : Int)) := E4.out.1.hb.rO (by omega)
          have f2 : wr.cell? ⟨Bc, o k, none⟩ = some (.int .i64 (c (o k))) := E4.out.1.cc.cell hok
          have f3 : wr.cell? ⟨V, 0, none⟩ = some (.slice (some ⟨B, 255, none⟩) (2 * n - 1) 509) := E4.out.2.1.cell (by omega)
          have f4 := E4.out.1.hb.rWt (i := k) (by omega)
          have f5 := E4.out.1.hb.fz (255 + k)
          have b1 : (k : Int) < ((2 * n - 1 : Nat) : Int) := by omega
          go_wp2
          go_region
          go_wp2
          go_roundw
          case rel =>
            refine ⟨k + 1, upd wt k (c (o k)), by omega, by go_num, E4.out.1.drew.setWt (by omega) _, E4.out.2.1.drew.setOther (show V ≠ B by omega) _, fun i hi => ?_⟩
            by_cases e : i = k
            · subst e; rw [upd_same]
            · rw [upd_ne e]; exact E4.out.2.2 i (by omega)
          case measure => simp [intOf]; omega
        · have ekn : k = n := by omega
          have E5 : Hid (Env w wr B Bc Bl n c (ci o) wt z0 z0 z0 z0 ∧ wr.rowIs V 22 1 (fun _ => .slice (some ⟨B, 255, none⟩) (2 * n - 1) 509) ∧ ∀ i, i < n → wt i = c (o i)) := ⟨E4.out.1, E4.out.2.1, by rw [← ekn]; exact E4.out.2.2⟩
          have fn : wr.cell? ⟨w.heap.size, 0, none⟩ = some (.int .i64 (n : Int)) := E4.out.1.nn.cell (by omega)
          have hws : w.heap.size < wr.heap.size := E4.out.1.nn.lt
          clear E4 ekn
          go_wp2
          go_cut [14, 15] from 27 to 101 (fun a b wc => ∃ Lf In, a = .pointer (some ⟨Lf, 0, none⟩) ∧ b = .pointer (some ⟨In, 0, none⟩) ∧ Env4 w wc B Bc Bl n c (ci o) wt z0 z0 z0 z0 V Lf In 0 n)
          case first =>
            have hV := E5.out.2.1.lt
            go_region
            · go_wp2
              go_meet
              case rel => exact ⟨wr.heap.size, wr.heap.size + 1, rfl, rfl, ((E5.out.1.alloc _).alloc _).drewN 1, ((E5.out.2.1.alloc _).alloc _).drew, ((row_one wr (.int .i64 (0 : Nat)) 3).alloc _).drew, by have := (row_one (wr.alloc (.cells #[.int .i64 0] 3)) (.int .i64 (n : Int)) 3).drew; simpa using this, by omega⟩
            · go_wp2
              go_meet
              case rel => exact ⟨wr.heap.size + 1, wr.heap.size, rfl, rfl, ((E5.out.1.alloc _).alloc _).drewN 1, ((E5.out.2.1.alloc _).alloc _).drew, by have := (row_one (wr.alloc (.cells #[.int .i64 (n : Int)] 3)) (.int .i64 (0 : Nat)) 3).drew; simpa using this, ((row_one wr (.int .i64 (n : Int)) 3).alloc _).drew, by omega⟩
          case rest =>
            obtain ⟨Lf, In, rfl, rfl, e4⟩ := hcut
            have E6 : Hid (Env4 w wc B Bc Bl n c (ci o) wt z0 z0 z0 z0 V Lf In 0 n) := e4
            have fn : wc.cell? ⟨w.heap.size, 0, none⟩ = some (.int .i64 (n : Int)) := e4.env.nn.cell (by omega)
            clear e4
            go_wp2
            clear fn
            obtain ⟨hls, hlpos⟩ : Hid (∀ i j, i ≤ j → j < n → c (o i) ≤ c (o j)) ∧ Hid (∀ i, i < n → 0 ≤ c (o i)) :=
              ⟨ord_le E3.out.2, fun i hi => by have := hpos0.out (o i) (E3.out.2.rng i hi); omega⟩
            go_loopw [17] (fun r wr => ∃ (t l q : Nat) (wt : Nat → Int) (pa : Nat → Nat), t + 1 ≤ n ∧ r = .int .i64 ((n + t : Nat) : Int) ∧ Env4 w wr B Bc Bl n c (ci o) wt (ci pa) z0 z0 z0 V Lf In l (n + q) ∧ R4 n (fun i => c (o i)) wt pa t l q) (fun r _ => 2 * n - (intOf r).toNat)
            case atStart => exact ⟨0, 0, 0, wt, fun _ => 0, by omega, rfl, E6.out, R4.start (by omega) hls.out hlpos.out E5.out.2.2 _⟩
            case round =>
              obtain ⟨t, l, q, wt, pa, ht, rfl, he, hr⟩ := hrel
              have E7 : Hid (Env4 w wr B Bc Bl n c (ci o) wt (ci pa) z0 z0 z0 V Lf In l (n + q) ∧ R4 n (fun i => c (o i)) wt pa t l q) := ⟨he, hr⟩
              have fn : wr.cell? ⟨w.heap.size, 0, none⟩ = some (.int .i64 (n : Int)) := he.env.nn.cell (by omega)
              clear he hr
              by_cases hlt : t + 2 ≤ n
              · have b1 : (n : Int) + (t : Int) < 2 * (n : Int) - 1 := by omega
                have hL := E7.out.2.left hlt
                go_wp2_with fail
                refine (pick_at _ (n + t) (by omega) E7.out.1 hn hn2 (by omega) (by omega) hL.1 (by omega) (by omega)).mono ?_
                rintro e w1 ⟨v1, l1, r1, rfl, p1, hv1, e1⟩
                have P1 : Hid (Pk n (n + t) wt l (n + q) v1 l1 r1 ∧ Env4 w w1 B Bc Bl n c (ci o) wt (ci pa) z0 z0 z0 V Lf In l1 r1) := ⟨p1, e1⟩
                have hN := p1.next
                clear p1 e1 fn
                go_wp2_with fail
                refine (pick_at _ (n + t) (by omega) P1.out.2 hn hn2 (by omega) (by omega) (by omega) (by omega) (by omega)).mono ?_
                rintro e w2 ⟨v2, l2, r2, rfl, p2, hv2, e2⟩
                have P2 : Hid (Pk n (n + t) wt l1 r1 v2 l2 r2 ∧ Env4 w w2 B Bc Bl n c (ci o) wt (ci pa) z0 z0 z0 V Lf In l2 r2) := ⟨p2, e2⟩
                have x1 := E7.out.2.pkb (Nat.le_refl _) (Nat.le_refl _) P1.out.1
                have x2 := E7.out.2.pkb hN.1 hN.2.1 p2
                have X : Hid (sm (fun i => c (o i)) n ≤ 1073741824) := by rw [E3.out.2.sums c]; exact hsum0.out
                have y1 : wt v1 ≤ 1073741824 := Int.le_trans x1.2 X.out
                have y2 : wt v2 ≤ 1073741824 := Int.le_trans x2.2 X.out
                have y3 := x1.1
                have y4 := x2.1
                clear x1 x2 p2 e2
                have f1 : w2.cell? ⟨V, 0, none⟩ = some (.slice (some ⟨B, 255, none⟩) (2 * n - 1) 509) := P2.out.2.vv.cell (by omega)
                have f2 := P2.out.2.env.hb.rWt (i := v1) (by omega)
                have f3 := P2.out.2.env.hb.rWt (i := v2) (by omega)
                have f4 := P2.out.2.env.hb.rWt (i := n + t) (by omega)
                have f5 := P2.out.2.env.hb.fz (255 + (n + t))
                have c1 : (v1 : Int) < ((2 * n - 1 : Nat) : Int) := by omega
                have c2 : (v2 : Int) < ((2 * n - 1 : Nat) : Int) := by omega
                have c3 : (n : Int) + (t : Int) < ((2 * n - 1 : Nat) : Int) := by omega
                go_wp2
                go_region
                have E8 : Env4 w (w2.setCell ⟨B, 255 + (n + t), none⟩ (.int .i64 (wt v1 + wt v2))).drew B Bc Bl n c (ci o) (upd wt (n + t) (wt v1 + wt v2)) (ci pa) z0 z0 z0 V Lf In l2 r2 := (P2.out.2.inB (P2.out.2.env.setWt (by omega) _)).drewN 1
                clear f1 f2 f3 f4 f5 c3 y1 y2 y3 y4
                generalize (w2.setCell ⟨B, 255 + (n + t), none⟩ (.int .i64 (wt v1 + wt v2))).drew = w3 at E8 ⊢
                have E9 : Hid (Env4 w w3 B Bc Bl n c (ci o) (upd wt (n + t) (wt v1 + wt v2)) (ci pa) z0 z0 z0 V Lf In l2 r2) := E8
                clear E8
                have f1 := E9.out.env.hb.rPa (i := v1) (by omega)
                have f5 := E9.out.env.hb.fz (764 + v1)
                have f6 := E9.out.env.hb.fz (764 + v2)
                have E10 := E9.out.inB (E9.out.env.setPa (i := v1) (by omega) ((n : Int) + (t : Int)))
                obtain ⟨u, hu⟩ : ∃ u, (w3.setCell ⟨B, 764 + v1, none⟩ (.int .i64 ((n : Int) + (t : Int)))).cell? ⟨B, 764 + v2, none⟩ = some u := ⟨_, E10.env.hb.rPa (by omega)⟩
                have E11 := E10.inB (E10.env.setPa (i := v2) (by omega) ((n : Int) + (t : Int)))
                have E12 : Hid (Env4 w ((w3.setCell ⟨B, 764 + v1, none⟩ (.int .i64 ((n : Int) + (t : Int)))).setCell ⟨B, 764 + v2, none⟩ (.int .i64 ((n : Int) + (t : Int)))) B Bc Bl n c (ci o) (upd wt (n + t) (wt v1 + wt v2)) (ci (upd (upd pa v1 (n + t)) v2 (n + t))) z0 z0 z0 V Lf In l2 r2) := by
                  rw [← ci_upd, ← ci_upd]; exact E11
                clear E10 E11
                go_wp2
                go_roundw
                case rel =>
                  obtain ⟨q2, rfl, R5⟩ := E7.out.2.step hlt P1.out.1 P2.out.1
                  exact ⟨t + 1, l2, q2, _, _, by omega, by go_num, E12.out, R5⟩
                case measure => simp [intOf]; omega
              · have b1 : ¬ (n : Int) + (t : Int) < 2 * (n : Int) - 1 := by omega
                have etn : t = n - 1 := by omega
                have E13 : Hid (Env w wr B Bc Bl n c (ci o) wt (ci pa) z0 z0 z0 ∧ R4 n (fun i => c (o i)) wt pa (n - 1) l q) := ⟨E7.out.1.env, by rw [← etn]; exact E7.out.2⟩
                clear E7 etn hls hlpos E6 E5
                have s48 := sl48 n hn2
                have s49 := sl49 n hn hn2
                go_wp2
                go_quiet (fail)
                clear fn s48 s49 b1
                have E14 : Env w (wr.drewN nq) B Bc Bl n c (ci o) wt (ci pa) z0 z0 z0 := E13.out.1.drewN _
                generalize wr.drewN nq = w3 at E14 ⊢
                have E15 : Hid (Env w w3 B Bc Bl n c (ci o) wt (ci pa) z0 z0 z0) := E14
                clear E14
                have fn : w3.cell? ⟨w.heap.size, 0, none⟩ = some (.int .i64 (n : Int)) := E15.out.nn.cell (by omega)
                have f1 : w3.cell? ⟨B, 1273 + (2 * n - 2), none⟩ = some (.int .i64 0) := E15.out.hb.rDe (by omega)
                have f2 := E15.out.hb.fz (1273 + (2 * n - 2))
                have c1 : 2 * (n : Int) - 2 < ((2 * n - 1 : Nat) : Int) := by omega
                have c2 : (2 * (n : Int) - 2).toNat = 2 * n - 2 := by omega
                go_wp2_with fail
                have E16 : Env w (w3.setCell ⟨B, 1273 + (2 * n - 2), none⟩ (.int .i64 0)) B Bc Bl n c (ci o) wt (ci pa) z0 z0 z0 := by
                  have := E15.out.setDe (i := 2 * n - 2) (by omega) 0
                  rwa [upd_z0] at this
                clear fn f1 f2 c1 E15
                generalize w3.setCell ⟨B, 1273 + (2 * n - 2), none⟩ (.int .i64 0) = w4 at E16 ⊢
                have hcl := clear22 hn hn2 E16
                have E17 : Hid (Env w (w4.setCells B 1782 (List.replicate n (.int .i64 0))) B Bc Bl n c (ci o) wt (ci pa) z0 z0 z0) := Env.clearPe n 0 w4 (by omega) E16
                have fn : (w4.setCells B 1782 (List.replicate n (.int .i64 0))).cell? ⟨w.heap.size, 0, none⟩ = some (.int .i64 (n : Int)) := E17.out.nn.cell (by omega)
                clear E16
                go_wp2_with (simp only [hcl])
                clear hcl fn
                have hpa : Hid (∀ x, x < 2 * n - 2 → x < pa x ∧ n ≤ pa x ∧ pa x ≤ 2 * n - 2) := E13.out.2.pab hn
                go_loopw [22] (fun r wr => ∃ (k : Nat) (de : Nat → Nat) (pe : Nat → Int), k ≤ 2 * n - 2 ∧ r = .int .i64 ((k : Int) - 1) ∧ Env w wr B Bc Bl n c (ci o) wt (ci pa) (ci de) pe z0 ∧ R5 n pa de pe k) (fun r _ => (intOf r + 1).toNat)
                case atStart => exact ⟨2 * n - 2, fun _ => 0, z0, by omega, by go_num, E17.out, R5.start hn pa⟩
                case round =>
                  obtain ⟨k, de, pe, hk, rfl, he, hr⟩ := hrel
                  have E18 : Hid (Env w wr B Bc Bl n c (ci o) wt (ci pa) (ci de) pe z0 ∧ R5 n pa de pe k) := ⟨he, hr⟩
                  have fn : wr.cell? ⟨w.heap.size, 0, none⟩ = some (.int .i64 (n : Int)) := he.nn.cell (by omega)
                  clear he hr
                  rcases Nat.eq_zero_or_pos k with rfl | hk0
                  · have b1 : ¬ (0 : Int) ≤ ((0 : Nat) : Int) - 1 := by omega
                    have E20 : Hid (Env w wr B Bc Bl n c (ci o) wt (ci pa) (ci de) pe z0 ∧ R6 n (fun i => c (o i)) pe (n - 1)) := ⟨E18.out.1, R6.start hn E13.out.2 E18.out.2⟩
                    go_wp2
                    clear E13 E17 E18 hpa fn b1
                    go_loopw [23] (fun r wr => ∃ (l : Nat) (p : Nat → Int), l < n ∧ (12 ≤ l ∨ l = n - 1) ∧ r = .int .i64 (l : Int) ∧ Env w wr B Bc Bl n c (ci o) wt (ci pa) (ci de) p z0 ∧ R6 n (fun i => c (o i)) p l) (fun r _ => (intOf r).toNat)
                    case atStart => exact ⟨n - 1, pe, by omega, Or.inr rfl, by go_num, E20.out.1, E20.out.2⟩
                    case round =>
                      obtain ⟨l, p, hl, hl2, rfl, he, hr⟩ := hrel
                      have E21 : Hid (Env w wr B Bc Bl n c (ci o) wt (ci pa) (ci de) p z0 ∧ R6 n (fun i => c (o i)) p l) := ⟨he, hr⟩
                      have fn : wr.cell? ⟨w.heap.size, 0, none⟩ = some (.int .i64 (n : Int)) := he.nn.cell (by omega)
                      clear he hr E20
                      by_cases h12 : 12 < l
                      · have b1 : (12 : Int) < (l : Int) := by omega
                        have b2 : (l : Int) < (n : Int) := by omega
                        go_wp2
                        obtain ⟨wo, rfl⟩ : ∃ wo : World, wo = wr := ⟨_, rfl⟩
                        go_loopg [] (p l).toNat (fun k wr => ∃ p : Nat → Int, (p l).toNat = k ∧ Env w wr B Bc Bl n c (ci o) wt (ci pa) (ci de) p z0 ∧ R6 n (fun i => c (o i)) p l)
                        case atStart => exact ⟨p, rfl, E21.out.1, E21.out.2⟩
                        case round =>
                          clear fn E21
                          obtain ⟨p, hpk, he, hr⟩ := hrel
                          have E22 : Hid ((p l).toNat = gk ∧ Env w wr B Bc Bl n c (ci o) wt (ci pa) (ci de) p z0 ∧ R6 n (fun i => c (o i)) p l) := ⟨hpk, he, hr⟩
                          have f1 := he.hb.rPe (i := l) (by omega)
                          have hpl := (hr.pb hl hl).1
                          have hpl2 := (hr.pb hl hl).2
                          clear hpk he hr
                          by_cases hpos : 0 < p l
                          · have hab : Hid (∃ j, j ≤ l - 2 ∧ 0 < p j) := E22.out.2.2.above hn2 (by omega) hl
                            go_wp2
                            go_loop [24] (fun r => ∃ j : Nat, r = .int .i64 (j : Int) ∧ j ≤ l - 2 ∧ ∀ x, j < x → x ≤ l - 2 → p x = 0) (fun r => (intOf r).toNat)
                            case atStart => exact ⟨l - 2, by go_num, Nat.le_refl _, fun x h1 h2 => by omega⟩
                            case round =>
                              obtain ⟨j, rfl, hj, hz⟩ := hrel
                              have HZ : Hid (∀ x, j < x → x ≤ l - 2 → p x = 0) := hz
                              clear hz
                              have f2 := E22.out.2.1.hb.rPe (i := j) (by omega)
                              have b3 : (j : Int) < (n : Int) := by omega
                              by_cases hpj : p j = 0
                              · have hj1 : 1 ≤ j := by
                                  obtain ⟨j0, h1, h2⟩ := hab.out
                                  rcases Nat.lt_or_ge j j0 with h3 | h3
                                  · have := HZ.out j0 h3 h1; omega
                                  · rcases Nat.eq_or_lt_of_le h3 with h4 | h4
                                    · subst h4; omega
                                    · omega
                                have b4 : (p j == 0) = true := by rw [beq_iff_eq]; exact hpj
                                have HPJ : Hid (p j = 0) := hpj
                                clear hpj
                                go_wp2
                                go_round
                                case rel =>
                                  refine ⟨j - 1, by go_num, by omega, fun x h1 h2 => ?_⟩
                                  by_cases e : x = j
                                  · subst e; exact HPJ.out
                                  · exact HZ.out x (by omega) h2
                                case measure => simp [intOf]; omega
                              · have hpj0 := (E22.out.2.2.pb hl (x := j) (by omega)).1
                                have hpj1 := (E22.out.2.2.pb hl (x := j) (by omega)).2
                                have b4 : (p j == 0) = false := by rw [beq_eq_false_iff_ne]; exact hpj
                                have hlift := E22.out.2.2.lift (by omega) hl hpos hj (by omega)
                                have HLF : Hid (R6 n (fun i => c (o i)) (lift p l j) l ∧ lift p l j l = p l - 2) := ⟨hlift.1, hlift.2.1⟩
                                have h2pl := hlift.2.2
                                clear hlift hpj
                                have EA : Env w (wr.setCell ⟨B, 1782 + l, none⟩ (.int .i64 (p l - 2))) B Bc Bl n c (ci o) wt (ci pa) (ci de) (upd p l (p l - 2)) z0 := E22.out.2.1.setPe (by omega) _
                                have fA := E22.out.2.1.hb.fz (1782 + l)
                                obtain ⟨v1, hv1⟩ : ∃ v1, upd p l (p l - 2) (l - 1) = v1 := ⟨_, rfl⟩
                                have gA : (wr.setCell ⟨B, 1782 + l, none⟩ (.int .i64 (p l - 2))).cell? ⟨B, 1782 + (l - 1), none⟩ = some (.int .i64 v1) := by rw [EA.hb.rPe (by omega), hv1]
                                have fA2 := EA.hb.fz (1782 + (l - 1))
                                have w1b : 0 ≤ v1 ∧ v1 ≤ 1000 := by
                                  have := E22.out.2.2.pb hl (x := l - 1) (by omega)
                                  rw [← hv1, upd_ne (by omega)]; omega
                                have EB : Env w ((wr.setCell ⟨B, 1782 + l, none⟩ (.int .i64 (p l - 2))).setCell ⟨B, 1782 + (l - 1), none⟩ (.int .i64 (v1 + 1))) B Bc Bl n c (ci o) wt (ci pa) (ci de) (upd (upd p l (p l - 2)) (l - 1) (v1 + 1)) z0 := EA.setPe (by omega) _
                                obtain ⟨v2, hv2⟩ : ∃ v2, upd (upd p l (p l - 2)) (l - 1) (v1 + 1) (j + 1) = v2 := ⟨_, rfl⟩
                                have gB : ((wr.setCell ⟨B, 1782 + l, none⟩ (.int .i64 (p l - 2))).setCell ⟨B, 1782 + (l - 1), none⟩ (.int .i64 (v1 + 1))).cell? ⟨B, 1782 + (j + 1), none⟩ = some (.int .i64 v2) := by rw [EB.hb.rPe (by omega), hv2]
                                have fB := EB.hb.fz (1782 + (j + 1))
                                have w2b : 0 ≤ v2 ∧ v2 ≤ 1002 := by
                                  rw [← hv2]
                                  by_cases e : j + 1 = l - 1
                                  · rw [e, upd_same]; omega
                                  · have := E22.out.2.2.pb hl (x := j + 1) (by omega)
                                    rw [upd_ne e, upd_ne (by omega)]; omega
                                have EC : Env w (((wr.setCell ⟨B, 1782 + l, none⟩ (.int .i64 (p l - 2))).setCell ⟨B, 1782 + (l - 1), none⟩ (.int .i64 (v1 + 1))).setCell ⟨B, 1782 + (j + 1), none⟩ (.int .i64 (v2 + 2))) B Bc Bl n c (ci o) wt (ci pa) (ci de) (upd (upd (upd p l (p l - 2)) (l - 1) (v1 + 1)) (j + 1) (v2 + 2)) z0 := EB.setPe (by omega) _
                                have hv3 : upd (upd (upd p l (p l - 2)) (l - 1) (v1 + 1)) (j + 1) (v2 + 2) j = p j := by rw [upd_ne (by omega), upd_ne (by omega), upd_ne (by omega)]
                                have gC : (((wr.setCell ⟨B, 1782 + l, none⟩ (.int .i64 (p l - 2))).setCell ⟨B, 1782 + (l - 1), none⟩ (.int .i64 (v1 + 1))).setCell ⟨B, 1782 + (j + 1), none⟩ (.int .i64 (v2 + 2))).cell? ⟨B, 1782 + j, none⟩ = some (.int .i64 (p j)) := by rw [EC.hb.rPe (by omega), hv3]
                                have fC := EC.hb.fz (1782 + j)
                                have ED := EC.setPe (i := j) (by omega) (p j - 1)
                                have HED : Hid (Env w ((((wr.setCell ⟨B, 1782 + l, none⟩ (.int .i64 (p l - 2))).setCell ⟨B, 1782 + (l - 1), none⟩ (.int .i64 (v1 + 1))).setCell ⟨B, 1782 + (j + 1), none⟩ (.int .i64 (v2 + 2))).setCell ⟨B, 1782 + j, none⟩ (.int .i64 (p j - 1))) B Bc Bl n c (ci o) wt (ci pa) (ci de) (lift p l j) z0) := by
                                  have e : lift p l j = upd (upd (upd (upd p l (p l - 2)) (l - 1) (v1 + 1)) (j + 1) (v2 + 2)) j (p j - 1) := by
                                    rw [← hv3, ← hv2, ← hv1]; rfl
                                  rw [e]; exact ED
                                clear EA EB EC ED hv1 hv2 hv3 HZ hab
                                have t1 : ((l : Int) - 1).toNat = l - 1 := by omega
                                have t2 : ((j : Int) + 1).toNat = j + 1 := by omega
                                have w1a := w1b.1
                                have w1c := w1b.2
                                have w2a := w2b.1
                                have w2c := w2b.2
                                clear w1b w2b
                                have b5 : (l : Int) - 1 < (n : Int) := by omega
                                have b6 : (j : Int) + 1 < (n : Int) := by omega
                                go_wp2
                                go_roundg (lift p l j l).toNat
                                case measure => rw [HLF.out.2]; have := E22.out.1; omega
                                case rel => exact ⟨lift p l j, rfl, HED.out, HLF.out.1⟩
                          · have hp0 : Hid (p l = 0) := by show p l = 0; omega
                            go_wp2
                            go_roundw
                            case rel => exact ⟨l - 1, p, by omega, by omega, by go_num, E22.out.2.1, E22.out.2.2.down (by omega) hp0.out⟩
                            case measure => simp [intOf]; omega
                      · have b1 : ¬ (12 : Int) < (l : Int) := by omega
                        have hM : Hid (l = min (n - 1) 12) := by show l = min (n - 1) 12; omega
                        go_wp2
                        clear fn b1
                        go_loopw [25, 26] (fun rn r wr => ∃ (m K : Nat) (A : Nat → Nat) (len : Nat → Int), 1 ≤ m ∧ m ≤ l + 1 ∧ r = .int .i64 (m : Int) ∧ rn = .int .i64 ((n : Int) - 1 - (K : Int)) ∧ K ≤ n ∧ Env w wr B Bc Bl n c (ci o) wt (ci pa) (ci de) p len ∧ AI p A K m 0 ∧ ∀ k, k < K → len (o (n - 1 - k)) = (A k : Int)) (fun _ r _ => 13 - (intOf r).toNat)
                        case atStart => exact ⟨1, 0, fun _ => 0, z0, by omega, by omega, rfl, by go_num, by omega, E21.out.1, AI.start E21.out.2.li.p0 _, fun k hk => by omega⟩
                        case round =>
                          obtain ⟨m, K, A, len, hm1, hm2, rfl, rfl, hKn, he, ha, hlen⟩ := hrel
                          have E23 : Hid (Env w wr B Bc Bl n c (ci o) wt (ci pa) (ci de) p len ∧ AI p A K m 0 ∧ ∀ k, k < K → len (o (n - 1 - k)) = (A k : Int)) := ⟨he, ha, hlen⟩
                          have fn : wr.cell? ⟨w.heap.size, 0, none⟩ = some (.int .i64 (n : Int)) := he.nn.cell (by omega)
                          have f1 : m ≤ l → wr.cell? ⟨B, 1782 + m, none⟩ = some (.int .i64 (p m)) := fun h => he.hb.rPe (by omega)
                          clear he ha hlen
                          by_cases hml : m ≤ l
                          · have f2 := f1 hml
                            have b2 : (m : Int) < (n : Int) := by omega
                            have b3 : (m : Int) ≤ (n : Int) - 1 := by omega
                            have b4 : (m : Int) ≤ 12 := by omega
                            have pm0 := (E21.out.2.pb hl (x := m) (by omega)).1
                            have pm1 := (E21.out.2.pb hl (x := m) (by omega)).2
                            have SM : Hid (sm p (m + 1) ≤ (n : Int)) := by
                              have h1 := E21.out.2.li.su
                              have h2 := sm_mono (f := p) (a := m + 1) (b := l + 1) (by omega) (fun i hi => E21.out.2.li.nn i (by omega))
                              show sm p (m + 1) ≤ (n : Int)
                              omega
                            clear f1
                            rcases (show (n : Int) - 1 ≤ 12 ∨ 12 < (n : Int) - 1 by omega) with hmn | hmn
                            all_goals (
                              go_wp2
                              obtain ⟨wo, rfl⟩ : ∃ wo : World, wo = wr := ⟨_, rfl⟩
                              go_loopw [25, 244] (fun rn r wr => ∃ (q K : Nat) (A : Nat → Nat) (len : Nat → Int), (q : Int) ≤ p m ∧ r = .int .i64 (q : Int) ∧ rn = .int .i64 ((n : Int) - 1 - (K : Int)) ∧ K ≤ n ∧ Env w wr B Bc Bl n c (ci o) wt (ci pa) (ci de) p len ∧ AI p A K m q ∧ ∀ k, k < K → len (o (n - 1 - k)) = (A k : Int)) (fun _ r _ => 255 - (intOf r).toNat)
                              case atStart => exact ⟨0, K, A, len, by omega, rfl, rfl, hKn, E23.out.1, E23.out.2.1, E23.out.2.2⟩
                              case round =>
                                clear fn f2 E23
                                obtain ⟨q, K, A, len, hq, rfl, rfl, hKn, he, ha, hlen⟩ := hrel
                                have E24 : Hid (Env w wr B Bc Bl n c (ci o) wt (ci pa) (ci de) p len ∧ AI p A K m q ∧ ∀ k, k < K → len (o (n - 1 - k)) = (A k : Int)) := ⟨he, ha, hlen⟩
                                have hcnt := ha.count
                                clear he ha hlen
                                by_cases hqp : (q : Int) < p m
                                · have hK : K < n := by
                                    have h1 := SM.out
                                    rw [sm_succ] at h1
                                    omega
                                  clear hcnt
                                  have ho : o (n - 1 - K) < n := E3.out.2.rng _ (by omega)
                                  have f1 : wr.cell? ⟨B, n - 1 - K, none⟩ = some (.int .i64 (o (n - 1 - K) : Int)) := E24.out.1.hb.rO (by omega)
                                  have f2 := E24.out.1.ll.cell ho
                                  have f3 := E24.out.1.ll.frozen (o (n - 1 - K))
                                  have t1 : ((n : Int) - 1 - (K : Int)).toNat = n - 1 - K := by omega
                                  have c1 : (0 : Int) ≤ (n : Int) - 1 - (K : Int) := by omega
                                  have c2 : (n : Int) - 1 - (K : Int) < (n : Int) := by omega
                                  have c3 : (o (n - 1 - K) : Int) < (n : Int) := by omega
                                  go_wp2
                                  go_roundw
                                  case rel =>
                                    refine ⟨q + 1, K + 1, upd A K m, upd len (o (n - 1 - K)) (m : Int), by omega, by go_num, by go_num, by omega, E24.out.1.setL _, E24.out.2.1.give hm1, fun k hk => ?_⟩
                                    by_cases e : k = K
                                    · subst e; rw [upd_same, upd_same]
                                    · rw [upd_ne e, upd_ne (fun h => e (by have := E3.out.2.inj (by omega) (by omega) h; omega))]
                                      exact E24.out.2.2 k (by omega)
                                  case measure => simp [intOf]; omega
                                · clear hcnt
                                  have hqe : Hid ((q : Int) = p m) := by show (q : Int) = p m; omega
                                  go_wp2
                                  go_roundw
                                  case rel => exact ⟨m + 1, K, A, len, by omega, by omega, by go_num, rfl, hKn, E24.out.1, E24.out.2.1.next hqe.out, E24.out.2.2⟩
                                  case measure => simp [intOf]; omega)
                          · have hm3 : m = l + 1 := by omega
                            have hcnt := E23.out.2.1.count
                            have HK : Hid (K = n) := by
                              have h1 := E21.out.2.li.su
                              rw [hm3] at hcnt
                              show K = n
                              omega
                            have FIN : Hid (Good n c len) := by
                              obtain ⟨iw, lp, ip, d, gq, gs, gd, gl, gu⟩ := E21.out.2
                              have ha := E23.out.2.1
                              have hlen := E23.out.2.2
                              rw [HK.out] at ha hlen
                              rw [hm3] at ha
                              exact Good.of hn E3.out.2 gq gs gd hM.out gl gu ha hlen
                            clear f1 hcnt hm3
                            rcases (show (n : Int) - 1 ≤ 12 ∨ 12 < (n : Int) - 1 by omega) with hmn | hmn
                            · have b5 : ¬ (m : Int) ≤ (n : Int) - 1 := by omega
                              go_wp2
                              go_end0
                              exact ⟨rfl, len, E23.out.1.ll, FIN.out, E23.out.1.bel⟩
                            · have b5 : ¬ (m : Int) ≤ 12 := by omega
                              go_wp2
                              go_end0
                              exact ⟨rfl, len, E23.out.1.ll, FIN.out, E23.out.1.bel⟩
                  · obtain ⟨k, rfl⟩ : ∃ k', k = k' + 1 := ⟨k - 1, by omega⟩
                    have hp := hpa.out k (by omega)
                    have hst := E18.out.2.step hk hpa.out
                    have f1 : wr.cell? ⟨B, 764 + k, none⟩ = some (.int .i64 (pa k : Int)) := E18.out.1.hb.rPa (by omega)
                    have f2 : wr.cell? ⟨B, 1273 + pa k, none⟩ = some (.int .i64 (de (pa k) : Int)) := E18.out.1.hb.rDe (by omega)
                    have f3 := E18.out.1.hb.rDe (i := k) (by omega)
                    have f4 := E18.out.1.hb.fz (1273 + k)
                    have hbd : de (pa k) ≤ 2 * n - 2 - pa k := E18.out.2.bnd (pa k) (by omega) hp.2.2
                    have HST : Hid (R5 n pa (upd de k (de (pa k) + 1)) (if k < n then upd pe (de (pa k) + 1) (pe (de (pa k) + 1) + 1) else pe) k) := hst.1
                    have E19 : Hid (Env w (wr.setCell ⟨B, 1273 + k, none⟩ (.int .i64 ((de (pa k) : Int) + 1))) B Bc Bl n c (ci o) wt (ci pa) (ci (upd de k (de (pa k) + 1))) pe z0) := by
                      rw [← ci_upd]; exact E18.out.1.setDe (by omega) _
                    clear hst
                    have b1 : (k : Int) < ((2 * n - 1 : Nat) : Int) := by omega
                    have b2 : (pa k : Int) < ((2 * n - 1 : Nat) : Int) := by omega
                    have f5 : (wr.setCell ⟨B, 1273 + k, none⟩ (.int .i64 ((de (pa k) : Int) + 1))).cell? ⟨w.heap.size, 0, none⟩ = some (.int .i64 (n : Int)) := E19.out.nn.cell (by omega)
                    by_cases hkn : k < n
                    · have b3 : (k : Int) < (n : Int) := by omega
                      have b4 : (de (pa k) : Int) + 1 < (n : Int) := by omega
                      have f6 : (wr.setCell ⟨B, 1273 + k, none⟩ (.int .i64 ((de (pa k) : Int) + 1))).cell? ⟨B, 1782 + (de (pa k) + 1), none⟩ = some (.int .i64 (pe (de (pa k) + 1))) := E19.out.hb.rPe (by omega)
                      have f7 := E19.out.hb.fz (1782 + (de (pa k) + 1))
                      have hpe1 : 0 ≤ pe (de (pa k) + 1) := (E18.out.2.peb _).1
                      have hpe2 : pe (de (pa k) + 1) ≤ (n : Int) := (E18.out.2.peb _).2
                      go_wp2
                      go_roundw
                      case rel => exact ⟨k, upd de k (de (pa k) + 1), upd pe (de (pa k) + 1) (pe (de (pa k) + 1) + 1), by omega, by go_num, E19.out.setPe (by omega) _, by have := HST.out; rwa [if_pos hkn] at this⟩
                      case measure => simp [intOf]
                    · have b3 : ¬ (k : Int) < (n : Int) := by omega
                      go_wp2
                      go_roundw
                      case rel => exact ⟨k, upd de k (de (pa k) + 1), pe, by omega, by go_num, E19.out, by have := HST.out; rwa [if_neg hkn] at this⟩
                      case measure => simp [intOf]
end Go.Proofs.Qxb6600394a.Hf
