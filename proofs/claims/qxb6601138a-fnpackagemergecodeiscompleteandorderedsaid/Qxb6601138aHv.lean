import Derived.Test.Qxb6601138aHu
namespace Go.Proofs.Qxb6601138a.Hf
open Go.RowKit Gw
set_option linter.unusedVariables false

theorem grow64_at (w : World) (v : Int) (n : Nat) (hv : v = (n : Int)) (h1 : 1 ≤ n) (h2 : n ≤ 1048576) :
    Calls Try.prog 30 #[.slice none 0 0, .int .i64 v] w fun e w' => ∃ cap, n ≤ cap ∧ cap ≤ maxLen ∧ e = .returned (.slice (some ⟨w.heap.size, 0, none⟩) 0 cap) ∧ w'.rowIs w.heap.size 28 cap (fun _ => .int .u64 0) ∧ Below w.heap.size w w' := by
  subst hv; exact grow64_any w n h1 h2
theorem grow32_at (w : World) (v : Int) (n : Nat) (hv : v = (n : Int)) (h1 : 1 ≤ n) (h2 : n ≤ 1048576) :
    Calls Try.prog 31 #[.slice none 0 0, .int .i64 v] w fun e w' => ∃ cap, n ≤ cap ∧ cap ≤ maxLen ∧ e = .returned (.slice (some ⟨w.heap.size, 0, none⟩) 0 cap) ∧ w'.rowIs w.heap.size 21 cap (fun _ => .int .i32 0) ∧ Below w.heap.size w w' := by
  subst hv; exact grow32_any w n h1 h2

/-- The lengths after the first k leaves. -/
def asg (len : Nat → Int) (sy D : Nat → Nat) : Nat → Nat → Int
  | 0 => len
  | k + 1 => upd (asg len sy D k) (sy k) ((D k : Int) % 256)
/-- uint64(maxBits). -/
def lim (mb : Int) : Int := IntKind.u64.wrap mb
theorem lim_eq (mb : Int) (h0 : 0 ≤ mb) (h1 : mb ≤ 255) : lim mb = mb := by
  have : lim mb = mb % 18446744073709551616 := rfl
  omega

/-- The leaves' weights. -/
def lwt (L : Nat → Int) : Nat → Int := fun i => wI (L i)
/-- What is asked of the leaves. -/
structure Lv (n nl : Nat) (L : Nat → Int) : Prop where
  n2 : 2 ≤ n ∧ n ≤ 4096 ∧ nl ≤ 65536
  rng : ∀ i, i < n → 0 ≤ L i ∧ L i ≤ 18446744073709551615
  sy : ∀ i, i < n → sN (L i) < nl
  srt : ∀ i j, i ≤ j → j < n → lwt L i ≤ lwt L j
theorem Lv.pos {n nl : Nat} {L : Nat → Int} (h : Lv n nl L) : ∀ i, i < n → 0 ≤ lwt L i := fun i hi => by
  have := (h.rng i hi).1; unfold lwt wI; omega
theorem Lv.wle {n nl : Nat} {L : Nat → Int} (h : Lv n nl L) : ∀ i, i < n → lwt L i ≤ 281474976710655 := fun i hi => by
  have := (h.rng i hi).2; unfold lwt wI; omega
theorem Lv.tot {n nl : Nat} {L : Nat → Int} (h : Lv n nl L) : sm (lwt L) n ≤ 1152921504606846976 := by
  have := sm_le (f := lwt L) (g := fun _ => 281474976710655) (k := n) (fun i hi => h.wle i hi)
  rw [sm_const] at this
  have := h.n2
  omega

/-- j depths are still to come. -/
structure R3 (n : Nat) (ip d : Nat → Nat) (j : Nat) : Prop where
  root : d (n - 2) = 0
  node : ∀ x, j ≤ x → x < n - 2 → d x = d (ip x) + 1
  bnd : ∀ x, j ≤ x → x ≤ n - 2 → d x ≤ n - 2 - x
theorem R3.step {n j : Nat} {ip d : Nat → Nat} (h : R3 n ip d (j + 1)) (hj : j < n - 2) (hip : ∀ x, x < n - 2 → x < ip x ∧ ip x < n - 1) : R3 n ip (upd d j (d (ip j) + 1)) j := by
  have h1 := hip j hj
  have h2 := h.bnd (ip j) (by omega) (by omega)
  refine ⟨?_, fun x hx hx2 => ?_, fun x hx hx2 => ?_⟩
  · rw [upd_ne (by omega)]; exact h.root
  · have h3 := hip x hx2
    by_cases e : x = j
    · subst e; rw [upd_same, upd_ne (by omega)]
    · rw [upd_ne e, upd_ne (by omega)]; exact h.node x (by omega) hx2
  · by_cases e : x = j
    · subst e; rw [upd_same]; omega
    · rw [upd_ne e]; exact h.bnd x (by omega) hx2

/-- What huffman comes to: k leaves have been given their lengths. -/
def HPost (w : World) (B Bo nl n : Nat) (len L : Nat → Int) (mb : Int) (e : Ending) (w' : World) : Prop :=
  ∃ (d : Nat → Nat) (k : Nat), Dep n (qs n (lwt L) (n - 1)).ip d ∧ k ≤ n ∧ (∀ i, i < k → (dl (qs n (lwt L) (n - 1)).lp d i : Int) ≤ lim mb) ∧ (k < n → lim mb < (dl (qs n (lwt L) (n - 1)).lp d k : Int)) ∧
    e = .returned (.bool (decide (k = n))) ∧ w'.rowIs Bo 5 nl (fun i => .int .u8 (asg len (fun i => sN (L i)) (dl (qs n (lwt L) (n - 1)).lp d) k i)) ∧
    (∀ k, k < w.heap.size → k ≠ Bo → k ≠ B → w'.heap[k]? = w.heap[k]?) ∧ w'.os = w.os ∧ w'.tape = w.tape ∧ w'.output = w.output ∧ w.heap.size ≤ w'.heap.size

set_option maxRecDepth 100000 in
set_option maxHeartbeats 8000000 in
theorem huff_any (w : World) (B Bo Bv nl n : Nat) (len L : Nat → Int) (mb : Int) (hL : Hid (Lv n nl L)) (hE : Hid (HE w w B Bo Bv nl n len L (.slice none 0 0) (.slice none 0 0))) :
    Calls Try.prog 28 #[.pointer (some ⟨B, 0, none⟩), .int .i64 mb] w fun e w' => HPost w B Bo nl n len L mb e w' := by
  obtain ⟨hn1, hn2, hnl⟩ := hL.out.n2
  have f0 := hE.out.c2
  have f1 := hE.out.c3
  have f2 := hE.out.st.frozen 3
  go_enter Try.func28, Try.ntmps28
  go_wp2_with fail
  refine (grow64_at _ _ (n - 1) (by omega) (by omega) (by omega)).mono ?_
  rintro e w1 ⟨cw, hcw, hcm, rfl, r1, b1⟩
  unfold maxLen at hcm
  have E1 : Hid (HE w w1 B Bo Bv nl n len L (.slice none 0 0) (.slice none 0 0) ∧ w1.rowIs w.heap.size 28 cw (fun _ => .int .u64 0)) := ⟨hE.out.below b1, r1⟩
  clear r1 b1 f0 f1 f2
  have f1 := E1.out.1.c3
  have f2 := E1.out.1.st.frozen 3
  have c1 : ((n : Int) - 1).toNat = n - 1 := by omega
  have c2 : (n : Int) - 1 ≤ (cw : Int) := by omega
  have c3 : (0 : Int) ≤ (n : Int) - 1 := by omega
  have f3 : (w1.setCell ⟨B, 3, none⟩ (.slice (some ⟨w.heap.size, 0, none⟩) (n - 1) cw)).cell? ⟨B, 4, none⟩ = some (.slice none 0 0) := (E1.out.1.set3 _).c4
  go_wp2_with fail
  have E2 : HE w (w1.setCell ⟨B, 3, none⟩ (.slice (some ⟨w.heap.size, 0, none⟩) (n - 1) cw)) B Bo Bv nl n len L (.slice (some ⟨w.heap.size, 0, none⟩) (n - 1) cw) (.slice none 0 0) := E1.out.1.set3 _
  have r2 : (w1.setCell ⟨B, 3, none⟩ (.slice (some ⟨w.heap.size, 0, none⟩) (n - 1) cw)).rowIs w.heap.size 28 cw (fun _ => .int .u64 0) := E1.out.2.setOther (show w.heap.size ≠ B by have := hE.out.geo; omega) _
  clear f1 f2 f3 c1 c2 c3
  generalize (w1.setCell ⟨B, 3, none⟩ (.slice (some ⟨w.heap.size, 0, none⟩) (n - 1) cw)) = w2 at E2 r2 ⊢
  refine (grow32_at _ _ (2 * n - 1) (by omega) (by omega) (by omega)).mono ?_
  rintro e w3 ⟨cp, hcp, hcm2, rfl, r3, b3⟩
  unfold maxLen at hcm2
  obtain ⟨Pb, hPb⟩ : ∃ Pb, w2.heap.size = Pb := ⟨_, rfl⟩
  rw [hPb] at r3 ⊢
  have E3 : Hid (HE w w3 B Bo Bv nl n len L (.slice (some ⟨w.heap.size, 0, none⟩) (n - 1) cw) (.slice none 0 0) ∧ w3.rowIs w.heap.size 28 cw (fun _ => .int .u64 0) ∧ w3.rowIs Pb 21 cp (fun _ => .int .i32 0) ∧ w.heap.size < Pb) :=
    ⟨E2.below b3, row_below r2 b3 r2.lt, r3, by rw [← hPb]; exact r2.lt⟩
  clear E2 r2 r3 b3 hPb
  have f1 := E3.out.1.c4
  have f2 := E3.out.1.st.frozen 4
  have c1 : (2 * (n : Int) - 1).toNat = 2 * n - 1 := by omega
  have c2 : 2 * (n : Int) - 1 ≤ (cp : Int) := by omega
  have c3 : (0 : Int) ≤ 2 * (n : Int) - 1 := by omega
  have E4 : Hid (HW w (w3.setCell ⟨B, 4, none⟩ (.slice (some ⟨Pb, 0, none⟩) (2 * n - 1) cp)) B Bo Bv nl n len L w.heap.size cw Pb cp (fun _ => 0) (fun _ => 0)) := by
    have g := hE.out.geo
    have g2 := E3.out.2.2.2
    exact ⟨E3.out.1.set4 _, E3.out.2.1.setOther (show w.heap.size ≠ B by omega) _, E3.out.2.2.1.setOther (show Pb ≠ B by omega) _, by omega⟩
  go_wp2_with fail
  clear f1 f2 c1 c2 c3 E1 E3
  obtain ⟨Wb, hWb⟩ : ∃ Wb, w.heap.size = Wb := ⟨_, rfl⟩
  have HWb : Hid (w.heap.size = Wb) := hWb
  rw [hWb] at E4
  simp only [hWb]
  clear hWb
  obtain ⟨W4, hW4⟩ : ∃ W4, (w3.setCell ⟨B, 4, none⟩ (.slice (some ⟨Pb, 0, none⟩) (2 * n - 1) cp)) = W4 := ⟨_, rfl⟩
  rw [hW4] at E4 ⊢
  clear hW4
  have hls := hL.out.srt
  have hlp := hL.out.pos
  have LS : Hid ((∀ i j, i ≤ j → j < n → lwt L i ≤ lwt L j) ∧ (∀ i, i < n → 0 ≤ lwt L i) ∧ sm (lwt L) n ≤ 1152921504606846976) := ⟨hls, hlp, hL.out.tot⟩
  clear hls hlp
  go_loopw [6, 7, 52] (fun rl rq rt wr => ∃ (t : Nat) (wf : Nat → Int) (pf : Nat → Nat), t + 1 ≤ n ∧ rt = .int .i64 (t : Int) ∧ rl = .int .i64 ((qs n (lwt L) t).l : Int) ∧ rq = .int .i64 ((qs n (lwt L) t).q : Int) ∧ HW w wr B Bo Bv nl n len L Wb cw Pb cp wf pf ∧ WS n t (qs n (lwt L) t) wf pf) (fun _ _ rt _ => n - (intOf rt).toNat)
  case atStart => exact ⟨0, fun _ => 0, fun _ => 0, by omega, rfl, rfl, rfl, E4.out, ⟨fun k hk => by omega, fun i hi => absurd hi (by show ¬ i < 0; omega), fun k hk => absurd hk (by show ¬ k < 0; omega)⟩⟩
  case round =>
    obtain ⟨t, wf, pf, ht, rfl, rfl, rfl, hw, hs⟩ := hrel
    have E5 : Hid (HW w wr B Bo Bv nl n len L Wb cw Pb cp wf pf ∧ WS n t (qs n (lwt L) t) wf pf) := ⟨hw, hs⟩
    clear hw hs E4
    by_cases htn : t + 2 ≤ n
    · have b1 : (t : Int) < (n : Int) - 1 := by omega
      go_wp2
      obtain ⟨wo, rfl⟩ : ∃ wo : World, wo = wr := ⟨_, rfl⟩
      go_loopw [6, 7, 9, 55] (fun rl rq rx rc wr => ∃ (c : Nat) (s : QS) (x : Int) (wf : Nat → Int) (pf : Nat → Nat), c ≤ 2 ∧ rc = .int .i64 (c : Int) ∧ rl = .int .i64 (s.l : Int) ∧ rq = .int .i64 (s.q : Int) ∧ rx = .int .u64 x ∧ HW w wr B Bo Bv nl n len L Wb cw Pb cp wf pf ∧ WS n t s wf pf ∧ QC n (lwt L) t c s x) (fun _ _ _ rc _ => 2 - (intOf rc).toNat)
      case atStart => exact ⟨0, qs n (lwt L) t, 0, wf, pf, by omega, rfl, rfl, rfl, rfl, E5.out.1, E5.out.2, Or.inl ⟨rfl, rfl, rfl⟩⟩
      case round =>
        clear E5
        obtain ⟨c, s, x, wf, pf, hc, rfl, rfl, rfl, rfl, hw, hs, hq⟩ := hrel
        have Q1 : Hid (HW w wr B Bo Bv nl n len L Wb cw Pb cp wf pf ∧ WS n t s wf pf ∧ QC n (lwt L) t c s x) := ⟨hw, hs, hq⟩
        clear hw hs hq
        by_cases hc2 : c < 2
        · have b2 : (c : Int) < 2 := by omega
          have hTH := Q1.out.2.2.th hc2 (by omega) LS.out.1 LS.out.2.1 htn
          have hbd := TH.bnd hTH
          have tot := LS.out.2.2
          have x0 : 0 ≤ x := hTH.x0
          have x1 : x ≤ 1152921504606846976 := Int.le_trans hbd.2.2 tot
          have hln : s.l ≤ n := hTH.ln
          have hqt : s.q ≤ t := hTH.q1
          have hleft := hTH.left hc2
          have HTH : Hid (THs n (lwt L) t s c x ∧ (∀ j, j < t → s.iw j ≤ 1152921504606846976)) := ⟨hTH, fun j hj => Int.le_trans (hbd.2.1 j hj) tot⟩
          have f2 := Q1.out.1.he.c2
          have f3 := Q1.out.1.he.c3
          have f4 := Q1.out.1.he.c4
          clear hTH hbd tot
          by_cases hb : s.l < n ∧ (s.q = t ∨ lwt L s.l ≤ s.iw s.q)
          · have HB : Hid (s.l < n ∧ (s.q = t ∨ lwt L s.l ≤ s.iw s.q)) := hb
            have hsl := hb.1
            have r1 := wr.heap.size
            have l1 : 0 ≤ L s.l := (hL.out.rng s.l hsl).1
            have l2 : L s.l ≤ 18446744073709551615 := (hL.out.rng s.l hsl).2
            have w1b : 0 ≤ wI (L s.l) := hL.out.pos s.l hsl
            have w2b : wI (L s.l) ≤ 281474976710655 := hL.out.wle s.l hsl
            have f5 : wr.cell? ⟨Bv, s.l, none⟩ = some (.int .u64 (L s.l)) := Q1.out.1.he.lv.cell hsl
            have f6 : wr.cell? ⟨Pb, s.l, none⟩ = some (.int .i32 (pf s.l : Int)) := Q1.out.1.pp.cell (by have := Q1.out.1.ne; omega)
            have f7 := Q1.out.1.pp.frozen s.l
            have nx := Q1.out.2.1.leaf (lw := lwt L) HB.out hln
            have NX : Hid (WS n t (pk1 n (lwt L) t s) wf (upd pf s.l t) ∧ (pk1 n (lwt L) t s).l = s.l + 1 ∧ (pk1 n (lwt L) t s).q = s.q ∧ wk1 n (lwt L) t s = lwt L s.l) := nx
            clear nx r1
            have d1 : (s.l : Int) < (n : Int) := by omega
            have d2 : (s.l : Int) < ((2 * n - 1 : Nat) : Int) := by omega
            by_cases hqt2 : s.q = t
            · have d3 : ((s.q : Int) == (t : Int)) = true := by rw [beq_iff_eq, hqt2]
              clear hb hqt2
              go_wp2_with fail
              go_quiet ((go_at_call 32; exact Calls.quiet_of_same (weight32 _ l1 l2 _)))
              go_wp2_with (go_at_call 32; refine (weight32 _ l1 l2 _).mono ?_; rintro e w' ⟨rfl, rfl⟩)
              go_roundw
              case rel => exact ⟨c + 1, pk1 n (lwt L) t s, x + wk1 n (lwt L) t s, wf, upd pf s.l t, by omega, by go_num, by rw [NX.out.2.1]; go_num, by rw [NX.out.2.2.1], by rw [NX.out.2.2.2]; rfl, (Q1.out.1.drewN _).setP _ _, NX.out.1, Q1.out.2.2.next hc2⟩
              case measure => simp [intOf]; omega
            · have d3 : ((s.q : Int) == (t : Int)) = false := by rw [beq_eq_false_iff_ne]; omega
              have d4 : wI (L s.l) ≤ s.iw s.q := by
                rcases hb.2 with h | h
                · exact absurd h hqt2
                · exact h
              have f8 : wr.cell? ⟨Wb, s.q, none⟩ = some (.int .u64 (s.iw s.q)) := by
                rw [Q1.out.1.ww.cell (by have := Q1.out.1.ne; omega), Q1.out.2.1.1 s.q (by omega)]
              have d5 : (s.q : Int) < ((n - 1 : Nat) : Int) := by omega
              clear hb hqt2
              go_wp2_with fail
              go_quiet ((go_at_call 32; exact Calls.quiet_of_same (weight32 _ l1 l2 _)))
              go_wp2_with (go_at_call 32; refine (weight32 _ l1 l2 _).mono ?_; rintro e w' ⟨rfl, rfl⟩)
              go_roundw
              case rel => exact ⟨c + 1, pk1 n (lwt L) t s, x + wk1 n (lwt L) t s, wf, upd pf s.l t, by omega, by go_num, by rw [NX.out.2.1]; go_num, by rw [NX.out.2.2.1], by rw [NX.out.2.2.2]; rfl, (Q1.out.1.drewN _).setP _ _, NX.out.1, Q1.out.2.2.next hc2⟩
              case measure => simp [intOf]; omega
          · have hq2 : s.q < t := by
              rcases hleft with h1 | h1
              · rcases Nat.lt_or_ge s.q t with h2 | h2
                · exact h2
                · exact absurd ⟨h1, Or.inl (by omega)⟩ hb
              · exact h1
            have nx := Q1.out.2.1.inner (lw := lwt L) hb hln
            have NX : Hid (WS n t (pk1 n (lwt L) t s) wf (upd pf (n + s.q) t) ∧ (pk1 n (lwt L) t s).l = s.l ∧ (pk1 n (lwt L) t s).q = s.q + 1 ∧ wk1 n (lwt L) t s = s.iw s.q) := nx
            clear nx
            have y0 : 0 ≤ s.iw s.q := TH.ipos HTH.out.1 s.q hq2
            have y1 : s.iw s.q ≤ 1152921504606846976 := HTH.out.2 s.q hq2
            have f8 : wr.cell? ⟨Wb, s.q, none⟩ = some (.int .u64 (s.iw s.q)) := by
              rw [Q1.out.1.ww.cell (by have := Q1.out.1.ne; omega), Q1.out.2.1.1 s.q hq2]
            have f6 : wr.cell? ⟨Pb, n + s.q, none⟩ = some (.int .i32 (pf (n + s.q) : Int)) := Q1.out.1.pp.cell (by have := Q1.out.1.ne; omega)
            have f7 := Q1.out.1.pp.frozen (n + s.q)
            have d3 : ((s.q : Int) == (t : Int)) = false := by rw [beq_eq_false_iff_ne]; omega
            have d5 : (s.q : Int) < ((n - 1 : Nat) : Int) := by omega
            have d6 : (n : Int) + (s.q : Int) < ((2 * n - 1 : Nat) : Int) := by omega
            by_cases hsl : s.l < n
            · have l1 : 0 ≤ L s.l := (hL.out.rng s.l hsl).1
              have l2 : L s.l ≤ 18446744073709551615 := (hL.out.rng s.l hsl).2
              have f5 : wr.cell? ⟨Bv, s.l, none⟩ = some (.int .u64 (L s.l)) := Q1.out.1.he.lv.cell hsl
              have d1 : (s.l : Int) < (n : Int) := by omega
              have d4 : ¬ wI (L s.l) ≤ s.iw s.q := fun h => hb ⟨hsl, Or.inr h⟩
              clear hb
              go_wp2_with fail
              go_quiet ((go_at_call 32; exact Calls.quiet_of_same (weight32 _ l1 l2 _)))
              go_wp2
              go_roundw
              case rel => exact ⟨c + 1, pk1 n (lwt L) t s, x + wk1 n (lwt L) t s, wf, upd pf (n + s.q) t, by omega, by go_num, by rw [NX.out.2.1], by rw [NX.out.2.2.1]; go_num, by rw [NX.out.2.2.2], (Q1.out.1.drewN _).setP _ _, NX.out.1, Q1.out.2.2.next hc2⟩
              case measure => simp [intOf]; omega
            · have d1 : decide ((s.l : Int) < (n : Int)) = false := decide_eq_false (by omega)
              clear hb
              go_wp2_with fail
              go_quiet (fail)
              go_wp2
              go_roundw
              case rel => exact ⟨c + 1, pk1 n (lwt L) t s, x + wk1 n (lwt L) t s, wf, upd pf (n + s.q) t, by omega, by go_num, by rw [NX.out.2.1], by rw [NX.out.2.2.1]; go_num, by rw [NX.out.2.2.2], (Q1.out.1.drewN _).setP _ _, NX.out.1, Q1.out.2.2.next hc2⟩
              case measure => simp [intOf]; omega
        · have hce : Hid (QC n (lwt L) t 2 s x) := by
            have e : c = 2 := by omega
            have h := Q1.out.2.2
            rw [e] at h; exact h
          have md := hce.out.made Q1.out.2.1
          have MD : Hid (WS n (t + 1) (qs n (lwt L) (t + 1)) (upd wf t x) pf ∧ (qs n (lwt L) (t + 1)).l = s.l ∧ (qs n (lwt L) (t + 1)).q = s.q) := md
          clear md
          have f3 := Q1.out.1.he.c3
          have f4 := Q1.out.1.ww.cell (i := t) (by have := Q1.out.1.ne; omega)
          have f5 := Q1.out.1.ww.frozen t
          have d1 : (t : Int) < ((n - 1 : Nat) : Int) := by omega
          have d2 : ¬ (c : Int) < 2 := by omega
          go_wp2
          go_roundw
          case rel => exact ⟨t + 1, upd wf t x, pf, by omega, by go_num, by rw [MD.out.2.1], by rw [MD.out.2.2], Q1.out.1.setW _ _, MD.out.1⟩
          case measure => simp [intOf]; omega
    · have b1 : ¬ (t : Int) < (n : Int) - 1 := by omega
      have etn : t = n - 1 := by omega
      have E6 : Hid (HW w wr B Bo Bv nl n len L Wb cw Pb cp wf pf ∧ WS n (n - 1) (qs n (lwt L) (n - 1)) wf pf) := ⟨E5.out.1, by rw [← etn]; exact E5.out.2⟩
      clear E5 etn
      have hqf := qs_fin hn1 LS.out.1 LS.out.2.1
      have QF : Hid ((qs n (lwt L) (n - 1)).l = n ∧ (qs n (lwt L) (n - 1)).q = n - 2 ∧ TQ n (lwt L) (qs n (lwt L) (n - 1)).iw (qs n (lwt L) (n - 1)).lp (qs n (lwt L) (n - 1)).ip (n - 1) n (n - 2)) := hqf
      clear hqf
      obtain ⟨lp, hlp⟩ : ∃ lp, (qs n (lwt L) (n - 1)).lp = lp := ⟨_, rfl⟩
      obtain ⟨ip, hip⟩ : ∃ ip, (qs n (lwt L) (n - 1)).ip = ip := ⟨_, rfl⟩
      have PF : Hid ((∀ i, i < n → pf i = lp i) ∧ (∀ k, k < n - 2 → pf (n + k) = ip k) ∧ (∀ i, i < n → lp i < n - 1) ∧ (∀ k, k < n - 2 → k < ip k ∧ ip k < n - 1)) := by
        refine ⟨fun i hi => ?_, fun k hk => ?_, fun i hi => ?_, fun k hk => ?_⟩
        · rw [E6.out.2.2.1 i (by rw [QF.out.1]; exact hi), hlp]
        · rw [E6.out.2.2.2 k (by rw [QF.out.2.1]; exact hk), hip]
        · rw [← hlp]; exact QF.out.2.2.lpr i hi
        · rw [← hip]; exact QF.out.2.2.ipr k hk
      have HLI : Hid ((qs n (lwt L) (n - 1)).lp = lp ∧ (qs n (lwt L) (n - 1)).ip = ip) := ⟨hlp, hip⟩
      have E7 : Hid (HW w wr B Bo Bv nl n len L Wb cw Pb cp wf pf) := E6.out.1
      clear hlp hip E6 QF LS
      have f3 := E7.out.he.c3
      have f4 := E7.out.ww.cell (i := n - 2) (by have := E7.out.ne; omega)
      have f5 := E7.out.ww.frozen (n - 2)
      have c1 : ((n : Int) - 2).toNat = n - 2 := by omega
      have c2 : (n : Int) - 2 < ((n - 1 : Nat) : Int) := by omega
      have c3 : (0 : Int) ≤ (n : Int) - 2 := by omega
      go_wp2
      clear f3 f4 f5 c1 c2 c3
      obtain ⟨wo, rfl⟩ : ∃ wo : World, wo = wr := ⟨_, rfl⟩
      go_loopw [11] (fun r wr => ∃ (j : Nat) (d : Nat → Nat) (wf : Nat → Int), j ≤ n - 2 ∧ r = .int .i64 ((j : Int) - 1) ∧ HW w wr B Bo Bv nl n len L Wb cw Pb cp wf pf ∧ R3 n ip d j ∧ ∀ x, j ≤ x → x ≤ n - 2 → wf x = (d x : Int)) (fun r _ => (intOf r + 1).toNat)
      case atStart =>
        refine ⟨n - 2, fun _ => 0, upd wf (n - 2) 0, by omega, by go_num, E7.out.setW _ _, ⟨rfl, fun x h1 h2 => by omega, fun x h1 h2 => by omega⟩, fun x h1 h2 => ?_⟩
        have e : x = n - 2 := by omega
        subst e; rw [upd_same]; rfl
      case round =>
        obtain ⟨j, d, wf, hj, rfl, hw, hr, hd⟩ := hrel
        have E8 : Hid (HW w wr B Bo Bv nl n len L Wb cw Pb cp wf pf ∧ R3 n ip d j ∧ ∀ x, j ≤ x → x ≤ n - 2 → wf x = (d x : Int)) := ⟨hw, hr, hd⟩
        clear hw hr hd E7
        rcases Nat.eq_zero_or_pos j with rfl | hj0
        · have b1 : ¬ (0 : Int) ≤ ((0 : Nat) : Int) - 1 := by omega
          have f2 := E8.out.1.he.c2
          go_wp2
          clear f2 b1
          obtain ⟨wq, rfl⟩ : ∃ wq : World, wq = wr := ⟨_, rfl⟩
          go_loopw [168] (fun r wr => ∃ i : Nat, i ≤ n ∧ r = .int .i64 (i : Int) ∧ HW w wr B Bo Bv nl n (asg len (fun i => sN (L i)) (dl lp d) i) L Wb cw Pb cp wf pf ∧ ∀ x, x < i → (dl lp d x : Int) ≤ lim mb) (fun r _ => n - (intOf r).toNat)
          case atStart => exact ⟨0, by omega, rfl, E8.out.1, fun x hx => by omega⟩
          case round =>
            obtain ⟨i, hi, rfl, hw, hx⟩ := hrel
            have E9 : Hid (HW w wr B Bo Bv nl n (asg len (fun i => sN (L i)) (dl lp d) i) L Wb cw Pb cp wf pf ∧ ∀ x, x < i → (dl lp d x : Int) ≤ lim mb) := ⟨hw, hx⟩
            clear hw hx
            have DEP : Hid (Dep n ip d) := ⟨E8.out.2.1.root, fun x hx => E8.out.2.1.node x (by omega) hx⟩
            by_cases hin : i < n
            · have f2 : wr.cell? ⟨Bv, i, none⟩ = some (.int .u64 (L i)) := E9.out.1.he.lv.cell hin
              have f4 := E9.out.1.he.c4
              have hlpi := PF.out.2.2.1 i hin
              have f5 : wr.cell? ⟨Pb, i, none⟩ = some (.int .i32 (lp i : Int)) := by
                rw [E9.out.1.pp.cell (by have := E9.out.1.ne; omega), PF.out.1 i hin]
              have f6 : wr.cell? ⟨Wb, lp i, none⟩ = some (.int .u64 (d (lp i) : Int)) := by
                rw [E9.out.1.ww.cell (by have := E9.out.1.ne; omega), E8.out.2.2 (lp i) (by omega) (by omega)]
              have hdb := E8.out.2.1.bnd (lp i) (by omega) (by omega)
              have b1 : (i : Int) < (n : Int) := by omega
              have b2 : (i : Int) < ((2 * n - 1 : Nat) : Int) := by omega
              have b3 : (lp i : Int) < ((n - 1 : Nat) : Int) := by omega
              have f7 := E9.out.1.he.c0
              by_cases hlim : lim mb < (d (lp i) : Int) + 1
              · have HL : Hid (lim mb < (d (lp i) : Int) + 1) := hlim
                unfold lim at hlim
                go_wp2
                go_ret
                refine ⟨d, i, by rw [HLI.out.2]; exact DEP.out, by omega, by rw [HLI.out.1]; exact E9.out.2, fun _ => by rw [HLI.out.1]; unfold dl; have := HL.out; omega, ?_, by rw [HLI.out.1]; exact E9.out.1.he.ll, E9.out.1.he.kp, E9.out.1.he.en⟩
                rw [decide_eq_false (show ¬ i = n by omega)]
                rfl
              · have hsy := hL.out.sy i hin
                have f8 := E9.out.1.he.ll.cell hsy
                have f9 := E9.out.1.he.ll.frozen (sN (L i))
                have l1 : 0 ≤ L i := (hL.out.rng i hin).1
                have l2 : L i ≤ 18446744073709551615 := (hL.out.rng i hin).2
                have b4 : ((sN (L i) : Nat) : Int) < (nl : Int) := by omega
                have E10 := E9.out.1.setL (sN (L i)) (((dl lp d i : Nat) : Int) % 256)
                have NX : Hid (HW w (wr.setCell ⟨Bo, sN (L i), none⟩ (.int .u8 (((dl lp d i : Nat) : Int) % 256))) B Bo Bv nl n (asg len (fun i => sN (L i)) (dl lp d) (i + 1)) L Wb cw Pb cp wf pf) := E10
                clear E10 hsy
                have HL : Hid (¬ lim mb < (d (lp i) : Int) + 1) := hlim
                unfold lim at hlim
                go_wp2
                go_region_with (go_at_call 33; refine (sym33 _ l1 l2 _).mono ?_; rintro e w' ⟨rfl, rfl⟩)
                go_wp2
                all_goals
                  go_roundw
                  case rel =>
                    refine ⟨i + 1, by omega, by go_num, NX.out.drewN 1, fun x hx => ?_⟩
                    by_cases e : x = i
                    · subst e; unfold dl; have := HL.out; omega
                    · exact E9.out.2 x (by omega)
                  case measure => simp [intOf]; omega
            · have b1 : ¬ (i : Int) < (n : Int) := by omega
              go_wp2
              go_ret
              have ein : i = n := by omega
              subst ein
              refine ⟨d, i, by rw [HLI.out.2]; exact DEP.out, by omega, by rw [HLI.out.1]; exact E9.out.2, fun h => absurd h (by omega), ?_, by rw [HLI.out.1]; exact E9.out.1.he.ll, E9.out.1.he.kp, E9.out.1.he.en⟩
              rw [decide_eq_true rfl]
              rfl
        · obtain ⟨k, rfl⟩ : ∃ k', j = k' + 1 := ⟨j - 1, by omega⟩
          have hip := PF.out.2.2.2 k (by omega)
          have f1 : wr.cell? ⟨Pb, n + k, none⟩ = some (.int .i32 (ip k : Int)) := by
            rw [E8.out.1.pp.cell (by have := E8.out.1.ne; omega), PF.out.2.1 k (by omega)]
          have f2 : wr.cell? ⟨Wb, ip k, none⟩ = some (.int .u64 (d (ip k) : Int)) := by
            rw [E8.out.1.ww.cell (by have := E8.out.1.ne; omega), E8.out.2.2 (ip k) (by omega) (by omega)]
          have f3 := E8.out.1.ww.cell (i := k) (by have := E8.out.1.ne; omega)
          have f4 := E8.out.1.ww.frozen k
          have f5 := E8.out.1.he.c4
          have hdb := E8.out.2.1.bnd (ip k) (by omega) (by omega)
          have b1 : (k : Int) < ((n - 1 : Nat) : Int) := by omega
          have b2 : (ip k : Int) < ((n - 1 : Nat) : Int) := by omega
          have b3 : (n : Int) + (k : Int) < ((2 * n - 1 : Nat) : Int) := by omega
          go_wp2
          go_roundw
          case rel =>
            refine ⟨k, upd d k (d (ip k) + 1), upd wf k ((d (ip k) : Int) + 1), by omega, by go_num, E8.out.1.setW _ _, E8.out.2.1.step (by omega) PF.out.2.2.2, fun x h1 h2 => ?_⟩
            by_cases e : x = k
            · subst e; rw [upd_same, upd_same]; omega
            · rw [upd_ne e, upd_ne e]; exact E8.out.2.2 x (by omega) h2
          case measure => simp [intOf]
end Go.Proofs.Qxb6601138a.Hf
