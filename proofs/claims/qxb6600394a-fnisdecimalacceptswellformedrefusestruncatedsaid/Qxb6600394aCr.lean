import Derived.Test.Qxb6600394aCq
namespace Go.Proofs.Qxb6600394a.Dc
open Go.RowKit Cl

/-- The three copies, as they lie in the world of now; nothing old has turned. -/
structure Pk (w wc : World) (aw : Option Addr) (nw : Nat) (yw : List Int) (af : Option Addr) (nf : Nat) (yf : List Int) (ae : Option Addr) (ne : Nat) (ye : List Int) : Prop where
  bel : Below w.heap.size w wc
  sw : Src wc aw nw nw yw
  sf : Src wc af nf nf yf
  se : Src wc ae ne ne ye
theorem Pk.later {w wc w' : World} {aw : Option Addr} {nw : Nat} {yw : List Int} {af : Option Addr} {nf : Nat} {yf : List Int} {ae : Option Addr} {ne : Nat} {ye : List Int} (h : Pk w wc aw nw yw af nf yf ae ne ye) (hb : Below wc.heap.size wc w') : Pk w w' aw nw yw af nf yf ae ne ye :=
  ⟨h.bel.trans (hb.mono h.bel.size), h.sw.later hb, h.sf.later hb, h.se.later hb⟩
theorem src_nil (w : World) : Src w none 0 0 [] := ⟨rfl, fun _ => ⟨rfl, rfl⟩, fun i hi => by simp at hi⟩
theorem allD_of {l : List Int} (h : l.all isDig = true) : allD l := fun x hx => List.all_eq_true.1 h x hx
theorem ne_nil_of {l : List Int} {n : Nat} (h : l.length = n) (h0 : ¬ n = 0) : l ≠ [] := fun e => h0 (by rw [← h, e]; rfl)

set_option maxHeartbeats 8000000 in
theorem accepts_any (s : Int) (a1 : Option Addr) (n1 c1 : Nat) (z1 : List Int) (hF : Bool) (a2 : Option Addr) (n2 c2 : Nat) (z2 : List Int) (hE up : Bool) (es : Int) (a3 : Option Addr) (n3 c3 : Nat) (z3 : List Int) (w : World)
    (s0 : 0 ≤ s) (s1 : s ≤ 255) (t0 : 0 ≤ es) (t1 : es ≤ 255) (r1 : IsRow .u8 w a1 n1 c1 z1) (r2 : IsRow .u8 w a2 n2 c2 z2) (r3 : IsRow .u8 w a3 n3 c3 z3) :
    Calls Try.prog 7 #[.int .u8 s, .slice a1 n1 c1, .bool hF, .slice a2 n2 c2, .bool hE, .bool up, .int .u8 es, .slice a3 n3 c3] w fun e w' => e = .returned (.bool true) ∧ Below w.heap.size w w' := by
  have m1 := r1.len
  have m2 := r2.len
  have m3 := r3.len
  have H : Hid (IsRow .u8 w a1 n1 c1 z1 ∧ IsRow .u8 w a2 n2 c2 z2 ∧ IsRow .u8 w a3 n3 c3 z3) := ⟨r1, r2, r3⟩
  clear r1 r2 r3
  by_cases hl : n1 + n2 + n3 ≤ 1048576
  · have hd : decide (n1 + n2 + n3 ≤ 1048576) = true := decide_eq_true hl
    have b1 : n1 ≤ 1048576 := by omega
    have b2 : n2 ≤ 1048576 := by omega
    have b3 : n3 ≤ 1048576 := by omega
    go_enter Try.func7, Try.ntmps7
    go_wp2_with fail
    refine (bytes26 s a1 n1 c1 hF a2 n2 c2 hE up es a3 n3 c3 _ m1 m2 m3).mono ?_
    rintro e w1 ⟨rfl, rfl⟩
    rw [hd]
    clear hd m1 m2 m3
    go_wp2_with fail
    refine (clone_src _ a1 n1 c1 z1 H.out.1 b1).mono ?_
    rintro e w2 ⟨aw, yw, rfl, sw, hb2⟩
    have S1 : Hid (Src w2 aw n1 n1 yw ∧ Below w1.heap.size w1 w2) := ⟨sw, hb2⟩
    clear sw hb2
    go_wp2_with fail
    refine (clone_src _ a2 n2 c2 z2 (H.out.2.1.later S1.out.2) b2).mono ?_
    rintro e w3 ⟨af, yf, rfl, sf, hb3⟩
    have S2 : Hid (Src w3 af n2 n2 yf ∧ Below w2.heap.size w2 w3) := ⟨sf, hb3⟩
    clear sf hb3
    have B3 : Hid (Below w1.heap.size w1 w3) := S1.out.2.trans (S2.out.2.mono S1.out.2.size)
    go_wp2_with fail
    refine (clone_src _ a3 n3 c3 z3 (H.out.2.2.later B3.out) b3).mono ?_
    rintro e w4 ⟨ae, ye, rfl, se, hb4⟩
    have P4 : Hid (Pk w1 w4 aw n1 yw af n2 yf ae n3 ye) := ⟨B3.out.trans (hb4.mono B3.out.size), (S1.out.1.later S2.out.2).later hb4, S2.out.1.later hb4, se⟩
    clear se hb4 S1 S2 B3 H
    by_cases hn1 : n1 = 0
    · subst hn1
      go_wp2
      go_ret
      exact ⟨rfl, P4.out.bel⟩
    · have e1 : ((n1 : Int) == 0) = false := by rw [beq_eq_false_iff_ne]; omega
      go_wp2_with fail
      refine (allDigits_any _ aw n1 n1 yw P4.out.sw (by omega)).mono ?_
      rintro e w5 ⟨rfl, rfl⟩
      cases hW : yw.all isDig with
      | false =>
        have X := hW
        clear hW
        go_wp2
        go_ret
        exact ⟨rfl, P4.out.bel⟩
      | true =>
        have W1 : Hid (allD yw ∧ yw ≠ []) := ⟨allD_of hW, ne_nil_of P4.out.sw.1 hn1⟩
        clear hW
        cases hF with
        | false =>
          have FR : Hid (false = true → allD yf ∧ yf ≠ []) := fun h => by simp at h
          cases hE with
          | false =>
            have ER : Hid (false = true → allD ye ∧ ye ≠ []) := fun h => by simp at h
            go_wp2_with fail
            refine (compose_any s aw n1 n1 false af n2 n2 false up es ae n3 n3 yw yf ye _ s0 s1 t0 t1 P4.out.sw P4.out.sf P4.out.se (by omega) (by omega) (by omega)).mono ?_
            rintro e v1 ⟨q1, k1, rfl, hq1, hm1, hr1, hb1⟩
            have R1 : Hid (q1 = List.length _ ∧ Rd v1 _ .u8 _ ∧ Pk w1 v1 aw n1 yw af n2 yf ae n3 ye) := ⟨hq1, hr1, P4.out.later hb1⟩
            clear hq1 hr1 hb1
            go_wp2_with fail
            refine (zIsDecimal_any _ _ q1 k1 _ R1.out.1 hm1 R1.out.2.1).mono ?_
            rintro e u1 ⟨rfl, hb1⟩
            have U1 : Hid (Pk w1 u1 aw n1 yw af n2 yf ae n3 ye) := R1.out.2.2.later hb1
            clear hb1 R1
            rw [law1 s yw false yf false up es ye W1.out.1 W1.out.2 FR.out ER.out]
            go_wp2_with fail
            refine (compose_any s none 0 0 false af n2 n2 false up es ae n3 n3 [] yf ye _ s0 s1 t0 t1 (src_nil _) U1.out.sf U1.out.se (by omega) (by omega) (by omega)).mono ?_
            rintro e v2 ⟨q2, k2, rfl, hq2, hm2, hr2, hb2⟩
            have R2 : Hid (q2 = List.length _ ∧ Rd v2 _ .u8 _ ∧ Pk w1 v2 aw n1 yw af n2 yf ae n3 ye) := ⟨hq2, hr2, U1.out.later hb2⟩
            clear hq2 hr2 hb2
            go_wp2_with fail
            refine (zIsDecimal_any _ _ q2 k2 _ R2.out.1 hm2 R2.out.2.1).mono ?_
            rintro e u2 ⟨rfl, hb2⟩
            have U2 : Hid (Pk w1 u2 aw n1 yw af n2 yf ae n3 ye) := R2.out.2.2.later hb2
            clear hb2 R2
            rw [law2 s false yf false up es ye]
            go_wp2
            go_ret
            exact ⟨rfl, U2.out.bel⟩
          | true =>
            by_cases hn3 : n3 = 0
            · subst hn3
              go_wp2
              go_ret
              exact ⟨rfl, P4.out.bel⟩
            · have e3 : ((n3 : Int) == 0) = false := by rw [beq_eq_false_iff_ne]; omega
              go_wp2_with fail
              refine (allDigits_any _ ae n3 n3 ye P4.out.se (by omega)).mono ?_
              rintro e w7 ⟨rfl, rfl⟩
              cases hW : ye.all isDig with
              | false =>
                go_wp2
                go_ret
                exact ⟨rfl, P4.out.bel⟩
              | true =>
                have ER : Hid (allD ye ∧ ye ≠ []) := ⟨allD_of hW, ne_nil_of P4.out.se.1 hn3⟩
                clear hW
                go_wp2_with fail
                refine (compose_any s aw n1 n1 false af n2 n2 true up es ae n3 n3 yw yf ye _ s0 s1 t0 t1 P4.out.sw P4.out.sf P4.out.se (by omega) (by omega) (by omega)).mono ?_
                rintro e v1 ⟨q1, k1, rfl, hq1, hm1, hr1, hb1⟩
                have R1 : Hid (q1 = List.length _ ∧ Rd v1 _ .u8 _ ∧ Pk w1 v1 aw n1 yw af n2 yf ae n3 ye) := ⟨hq1, hr1, P4.out.later hb1⟩
                clear hq1 hr1 hb1
                go_wp2_with fail
                refine (zIsDecimal_any _ _ q1 k1 _ R1.out.1 hm1 R1.out.2.1).mono ?_
                rintro e u1 ⟨rfl, hb1⟩
                have U1 : Hid (Pk w1 u1 aw n1 yw af n2 yf ae n3 ye) := R1.out.2.2.later hb1
                clear hb1 R1
                rw [law1 s yw false yf true up es ye W1.out.1 W1.out.2 FR.out (fun _ => ER.out)]
                go_wp2_with fail
                refine (compose_any s none 0 0 false af n2 n2 true up es ae n3 n3 [] yf ye _ s0 s1 t0 t1 (src_nil _) U1.out.sf U1.out.se (by omega) (by omega) (by omega)).mono ?_
                rintro e v2 ⟨q2, k2, rfl, hq2, hm2, hr2, hb2⟩
                have R2 : Hid (q2 = List.length _ ∧ Rd v2 _ .u8 _ ∧ Pk w1 v2 aw n1 yw af n2 yf ae n3 ye) := ⟨hq2, hr2, U1.out.later hb2⟩
                clear hq2 hr2 hb2
                go_wp2_with fail
                refine (zIsDecimal_any _ _ q2 k2 _ R2.out.1 hm2 R2.out.2.1).mono ?_
                rintro e u2 ⟨rfl, hb2⟩
                have U2 : Hid (Pk w1 u2 aw n1 yw af n2 yf ae n3 ye) := R2.out.2.2.later hb2
                clear hb2 R2
                rw [law2 s false yf true up es ye]
                go_wp2_with fail
                refine (compose_any s aw n1 n1 false af n2 n2 true up es none 0 0 yw yf [] _ s0 s1 t0 t1 U2.out.sw U2.out.sf (src_nil _) (by omega) (by omega) (by omega)).mono ?_
                rintro e v4 ⟨q4, k4, rfl, hq4, hm4, hr4, hb4⟩
                have R4 : Hid (q4 = List.length _ ∧ Rd v4 _ .u8 _ ∧ Pk w1 v4 aw n1 yw af n2 yf ae n3 ye) := ⟨hq4, hr4, U2.out.later hb4⟩
                clear hq4 hr4 hb4
                go_wp2_with fail
                refine (zIsDecimal_any _ _ q4 k4 _ R4.out.1 hm4 R4.out.2.1).mono ?_
                rintro e u4 ⟨rfl, hb4⟩
                have U4 : Hid (Pk w1 u4 aw n1 yw af n2 yf ae n3 ye) := R4.out.2.2.later hb4
                clear hb4 R4
                rw [law4 s yw false yf up es W1.out.1 W1.out.2 FR.out]
                go_wp2
                go_ret
                exact ⟨rfl, U4.out.bel⟩
        | true =>
          by_cases hn2 : n2 = 0
          · subst hn2
            go_wp2
            go_ret
            exact ⟨rfl, P4.out.bel⟩
          · have e2 : ((n2 : Int) == 0) = false := by rw [beq_eq_false_iff_ne]; omega
            go_wp2_with fail
            refine (allDigits_any _ af n2 n2 yf P4.out.sf (by omega)).mono ?_
            rintro e w6 ⟨rfl, rfl⟩
            cases hW : yf.all isDig with
            | false =>
              go_wp2
              go_ret
              exact ⟨rfl, P4.out.bel⟩
            | true =>
              have FR : Hid (allD yf ∧ yf ≠ []) := ⟨allD_of hW, ne_nil_of P4.out.sf.1 hn2⟩
              clear hW
              cases hE with
              | false =>
                have ER : Hid (false = true → allD ye ∧ ye ≠ []) := fun h => by simp at h
                go_wp2_with fail
                refine (compose_any s aw n1 n1 true af n2 n2 false up es ae n3 n3 yw yf ye _ s0 s1 t0 t1 P4.out.sw P4.out.sf P4.out.se (by omega) (by omega) (by omega)).mono ?_
                rintro e v1 ⟨q1, k1, rfl, hq1, hm1, hr1, hb1⟩
                have R1 : Hid (q1 = List.length _ ∧ Rd v1 _ .u8 _ ∧ Pk w1 v1 aw n1 yw af n2 yf ae n3 ye) := ⟨hq1, hr1, P4.out.later hb1⟩
                clear hq1 hr1 hb1
                go_wp2_with fail
                refine (zIsDecimal_any _ _ q1 k1 _ R1.out.1 hm1 R1.out.2.1).mono ?_
                rintro e u1 ⟨rfl, hb1⟩
                have U1 : Hid (Pk w1 u1 aw n1 yw af n2 yf ae n3 ye) := R1.out.2.2.later hb1
                clear hb1 R1
                rw [law1 s yw true yf false up es ye W1.out.1 W1.out.2 (fun _ => FR.out) ER.out]
                go_wp2_with fail
                refine (compose_any s none 0 0 true af n2 n2 false up es ae n3 n3 [] yf ye _ s0 s1 t0 t1 (src_nil _) U1.out.sf U1.out.se (by omega) (by omega) (by omega)).mono ?_
                rintro e v2 ⟨q2, k2, rfl, hq2, hm2, hr2, hb2⟩
                have R2 : Hid (q2 = List.length _ ∧ Rd v2 _ .u8 _ ∧ Pk w1 v2 aw n1 yw af n2 yf ae n3 ye) := ⟨hq2, hr2, U1.out.later hb2⟩
                clear hq2 hr2 hb2
                go_wp2_with fail
                refine (zIsDecimal_any _ _ q2 k2 _ R2.out.1 hm2 R2.out.2.1).mono ?_
                rintro e u2 ⟨rfl, hb2⟩
                have U2 : Hid (Pk w1 u2 aw n1 yw af n2 yf ae n3 ye) := R2.out.2.2.later hb2
                clear hb2 R2
                rw [law2 s true yf false up es ye]
                go_wp2_with fail
                refine (compose_any s aw n1 n1 true none 0 0 false up es ae n3 n3 yw [] ye _ s0 s1 t0 t1 U2.out.sw (src_nil _) U2.out.se (by omega) (by omega) (by omega)).mono ?_
                rintro e v3 ⟨q3, k3, rfl, hq3, hm3, hr3, hb3⟩
                have R3 : Hid (q3 = List.length _ ∧ Rd v3 _ .u8 _ ∧ Pk w1 v3 aw n1 yw af n2 yf ae n3 ye) := ⟨hq3, hr3, U2.out.later hb3⟩
                clear hq3 hr3 hb3
                go_wp2_with fail
                refine (zIsDecimal_any _ _ q3 k3 _ R3.out.1 hm3 R3.out.2.1).mono ?_
                rintro e u3 ⟨rfl, hb3⟩
                have U3 : Hid (Pk w1 u3 aw n1 yw af n2 yf ae n3 ye) := R3.out.2.2.later hb3
                clear hb3 R3
                rw [law3 s yw false up es ye W1.out.1 W1.out.2]
                go_wp2
                go_ret
                exact ⟨rfl, U3.out.bel⟩
              | true =>
                by_cases hn3 : n3 = 0
                · subst hn3
                  go_wp2
                  go_ret
                  exact ⟨rfl, P4.out.bel⟩
                · have e3 : ((n3 : Int) == 0) = false := by rw [beq_eq_false_iff_ne]; omega
                  go_wp2_with fail
                  refine (allDigits_any _ ae n3 n3 ye P4.out.se (by omega)).mono ?_
                  rintro e w7 ⟨rfl, rfl⟩
                  cases hW : ye.all isDig with
                  | false =>
                    go_wp2
                    go_ret
                    exact ⟨rfl, P4.out.bel⟩
                  | true =>
                    have ER : Hid (allD ye ∧ ye ≠ []) := ⟨allD_of hW, ne_nil_of P4.out.se.1 hn3⟩
                    clear hW
                    go_wp2_with fail
                    refine (compose_any s aw n1 n1 true af n2 n2 true up es ae n3 n3 yw yf ye _ s0 s1 t0 t1 P4.out.sw P4.out.sf P4.out.se (by omega) (by omega) (by omega)).mono ?_
                    rintro e v1 ⟨q1, k1, rfl, hq1, hm1, hr1, hb1⟩
                    have R1 : Hid (q1 = List.length _ ∧ Rd v1 _ .u8 _ ∧ Pk w1 v1 aw n1 yw af n2 yf ae n3 ye) := ⟨hq1, hr1, P4.out.later hb1⟩
                    clear hq1 hr1 hb1
                    go_wp2_with fail
                    refine (zIsDecimal_any _ _ q1 k1 _ R1.out.1 hm1 R1.out.2.1).mono ?_
                    rintro e u1 ⟨rfl, hb1⟩
                    have U1 : Hid (Pk w1 u1 aw n1 yw af n2 yf ae n3 ye) := R1.out.2.2.later hb1
                    clear hb1 R1
                    rw [law1 s yw true yf true up es ye W1.out.1 W1.out.2 (fun _ => FR.out) (fun _ => ER.out)]
                    go_wp2_with fail
                    refine (compose_any s none 0 0 true af n2 n2 true up es ae n3 n3 [] yf ye _ s0 s1 t0 t1 (src_nil _) U1.out.sf U1.out.se (by omega) (by omega) (by omega)).mono ?_
                    rintro e v2 ⟨q2, k2, rfl, hq2, hm2, hr2, hb2⟩
                    have R2 : Hid (q2 = List.length _ ∧ Rd v2 _ .u8 _ ∧ Pk w1 v2 aw n1 yw af n2 yf ae n3 ye) := ⟨hq2, hr2, U1.out.later hb2⟩
                    clear hq2 hr2 hb2
                    go_wp2_with fail
                    refine (zIsDecimal_any _ _ q2 k2 _ R2.out.1 hm2 R2.out.2.1).mono ?_
                    rintro e u2 ⟨rfl, hb2⟩
                    have U2 : Hid (Pk w1 u2 aw n1 yw af n2 yf ae n3 ye) := R2.out.2.2.later hb2
                    clear hb2 R2
                    rw [law2 s true yf true up es ye]
                    go_wp2_with fail
                    refine (compose_any s aw n1 n1 true none 0 0 true up es ae n3 n3 yw [] ye _ s0 s1 t0 t1 U2.out.sw (src_nil _) U2.out.se (by omega) (by omega) (by omega)).mono ?_
                    rintro e v3 ⟨q3, k3, rfl, hq3, hm3, hr3, hb3⟩
                    have R3 : Hid (q3 = List.length _ ∧ Rd v3 _ .u8 _ ∧ Pk w1 v3 aw n1 yw af n2 yf ae n3 ye) := ⟨hq3, hr3, U2.out.later hb3⟩
                    clear hq3 hr3 hb3
                    go_wp2_with fail
                    refine (zIsDecimal_any _ _ q3 k3 _ R3.out.1 hm3 R3.out.2.1).mono ?_
                    rintro e u3 ⟨rfl, hb3⟩
                    have U3 : Hid (Pk w1 u3 aw n1 yw af n2 yf ae n3 ye) := R3.out.2.2.later hb3
                    clear hb3 R3
                    rw [law3 s yw true up es ye W1.out.1 W1.out.2]
                    go_wp2_with fail
                    refine (compose_any s aw n1 n1 true af n2 n2 true up es none 0 0 yw yf [] _ s0 s1 t0 t1 U3.out.sw U3.out.sf (src_nil _) (by omega) (by omega) (by omega)).mono ?_
                    rintro e v4 ⟨q4, k4, rfl, hq4, hm4, hr4, hb4⟩
                    have R4 : Hid (q4 = List.length _ ∧ Rd v4 _ .u8 _ ∧ Pk w1 v4 aw n1 yw af n2 yf ae n3 ye) := ⟨hq4, hr4, U3.out.later hb4⟩
                    clear hq4 hr4 hb4
                    go_wp2_with fail
                    refine (zIsDecimal_any _ _ q4 k4 _ R4.out.1 hm4 R4.out.2.1).mono ?_
                    rintro e u4 ⟨rfl, hb4⟩
                    have U4 : Hid (Pk w1 u4 aw n1 yw af n2 yf ae n3 ye) := R4.out.2.2.later hb4
                    clear hb4 R4
                    rw [law4 s yw true yf up es W1.out.1 W1.out.2 (fun _ => FR.out)]
                    go_wp2
                    go_ret
                    exact ⟨rfl, U4.out.bel⟩
  · have hd : decide (n1 + n2 + n3 ≤ 1048576) = false := decide_eq_false hl
    go_enter Try.func7, Try.ntmps7
    go_wp2_with fail
    refine (bytes26 s a1 n1 c1 hF a2 n2 c2 hE up es a3 n3 c3 _ m1 m2 m3).mono ?_
    rintro e w1 ⟨rfl, rfl⟩
    rw [hd]
    clear hd
    go_wp2
    go_ret
    exact ⟨rfl, Below.refl _ _⟩
end Go.Proofs.Qxb6600394a.Dc
