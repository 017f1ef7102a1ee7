import Derived.Test.Qxb6600394aRows
import Derived.WalkKit
import Derived.WalkSpells
import Derived.WalkLawsBesides
import Derived.Deep.LoopGhost
import Derived.Deep.OwnRows
namespace Go.Proofs.Qxb6600394a.Dc
open Go.RowKit

/-! ### Plain: what isDecimal computes, on the list of bytes that is left -/
def isDig (c : Int) : Bool := decide (48 ≤ c ∧ c ≤ 57)
def signL : List Int → List Int
  | c :: l => if c = 43 ∨ c = 45 then l else c :: l
  | [] => []
def digL (l : List Int) : List Int := l.dropWhile isDig
def tailE : List Int → Bool
  | c :: l => if c = 101 ∨ c = 69 then (if (digL (signL l)).length < (signL l).length then (digL (signL l)).isEmpty else false) else false
  | [] => true
def fracE : List Int → Bool
  | c :: l => if c = 46 then (if (digL l).length < l.length then tailE (digL l) else false) else tailE (c :: l)
  | [] => true
def isDec (zs : List Int) : Bool := if (digL (signL zs)).length < (signL zs).length then fracE (digL (signL zs)) else false

/-- What is left at place i is l. -/
def St (zs : List Int) (i : Nat) (l : List Int) : Prop := zs.drop i = l ∧ i + l.length = zs.length
theorem St.tail {zs : List Int} {i : Nat} {c : Int} {l : List Int} (h : St zs i (c :: l)) : St zs (i + 1) l := by
  refine ⟨?_, by have := h.2; simp at this; omega⟩
  have := congrArg List.tail h.1
  simpa using this
theorem St.head {zs : List Int} {i : Nat} {c : Int} {l : List Int} (h : St zs i (c :: l)) : zs.getD i 0 = c := by
  have := congrArg List.head? h.1
  simp at this
  simp [this]

/-- The slice's first n cells read as the bytes zs. -/
def Rd (w : World) (a : Option Addr) (k : IntKind) (zs : List Int) : Prop := ∀ i, i < zs.length → ∃ b, a = some ⟨b, 0, none⟩ ∧ w.cell? ⟨b, i, none⟩ = some (.int k (zs.getD i 0))

def WI (w : World) (a : Option Addr) (n c : Nat) (i : Int) : World := (w.alloc (.cells #[.slice a n c] 25)).alloc (.cells #[.int .i64 i] 3)

theorem cell_lt {w : World} {b i : Nat} {v : Value} (h : w.cell? ⟨b, i, none⟩ = some v) : b < w.heap.size := by
  rcases Nat.lt_or_ge b w.heap.size with h' | h'
  · exact h'
  · simp [World.cell?, Array.getElem?_eq_none h'] at h

set_option maxHeartbeats 400000 in
theorem sign_any (w : World) (a : Option Addr) (n c : Nat) (zs : List Int) (hn : n = zs.length) (hm : n ≤ 4194304) (hr : Rd w a .u8 zs) (i : Nat) (l : List Int) (st : St zs i l) (v : Int) (hv : v = (i : Int)) :
    Calls Try.prog 40 #[.pointer (some ⟨w.heap.size + 1, 0, none⟩), .pointer (some ⟨w.heap.size, 0, none⟩)] (WI w a n c v) fun e w' => e = .returned (.tuple #[]) ∧ ∃ i' : Nat, St zs i' (signL l) ∧ WI w a n c (i' : Int) = w' := by
  subst hv
  cases l with
  | nil =>
    have hlt : ¬ ((i : Int) < (n : Int)) := by have := st.2; simp at this; omega
    clear hr hn
    unfold WI
    go_enter Try.func40, Try.ntmps40
    go_wp2
    go_end0
    exact ⟨rfl, i, st, rfl⟩
  | cons x l =>
    have hi : i < n := by have := st.2; simp at this; omega
    obtain ⟨b, rfl, hc⟩ := hr i (by omega)
    rw [st.head] at hc
    have hb := cell_lt hc
    have hlt : ((i : Int) < (n : Int)) := by omega
    clear hr hn
    by_cases h1 : x = 43 ∨ x = 45
    · have e : signL (x :: l) = l := by simp [signL, h1]
      rw [e]
      have st' := st.tail
      clear st e
      unfold WI
      rcases h1 with h1 | h1
      · subst h1
        go_enter Try.func40, Try.ntmps40
        go_wp2
        go_end0
        exact ⟨rfl, i + 1, st', by simp⟩
      · subst h1
        go_enter Try.func40, Try.ntmps40
        go_wp2
        go_end0
        exact ⟨rfl, i + 1, st', by simp⟩
    · have e : signL (x :: l) = x :: l := by simp [signL, h1]
      rw [e]
      clear e
      have e1 : (x == 43) = false := by rw [beq_eq_false_iff_ne]; omega
      have e2 : (x == 45) = false := by rw [beq_eq_false_iff_ne]; omega
      unfold WI
      go_enter Try.func40, Try.ntmps40
      go_wp2
      go_end0
      exact ⟨rfl, i, st, rfl⟩

theorem digL_len (l : List Int) : (digL l).length ≤ l.length := by
  unfold digL; exact List.Sublist.length_le (List.dropWhile_sublist _)

theorem ret_bool {a b : Bool} (h : a = b) : Ending.returned (.bool a) = .returned (.bool b) := by rw [h]
theorem dig_end {zs l : List Int} {i j : Nat} (h : St zs i l) (k : St zs j (digL l)) : decide (i < j) = decide ((digL l).length < l.length) := by
  have h1 := h.2
  have h2 := k.2
  rw [decide_eq_decide]
  omega
theorem digL_yes {x : Int} {m : List Int} (h1 : 48 ≤ x) (h2 : x ≤ 57) : digL (x :: m) = digL m := by
  simp [digL, isDig, List.dropWhile, h1, h2]
theorem digL_no {x : Int} {m : List Int} (h : ¬ (48 ≤ x ∧ x ≤ 57)) : digL (x :: m) = x :: m := by
  simp [digL, isDig, List.dropWhile, h]

set_option maxHeartbeats 1000000 in
theorem digits_any (w : World) (a : Option Addr) (n c : Nat) (zs : List Int) (hn : n = zs.length) (hm : n ≤ 4194304) (hr : Rd w a .u8 zs) (i : Nat) (l : List Int) (st : St zs i l) (v : Int) (hv : v = (i : Int)) :
    Calls Try.prog 41 #[.pointer (some ⟨w.heap.size + 1, 0, none⟩), .pointer (some ⟨w.heap.size, 0, none⟩)] (WI w a n c v) fun e w' => e = .returned (.bool (decide ((digL l).length < l.length))) ∧ ∃ i' : Nat, St zs i' (digL l) ∧ WI w a n c (i' : Int) = w' := by
  subst hv
  have hin : i ≤ n := by have := st.2; omega
  have HN : Hid (n = zs.length) := hn
  have HR : Hid (Rd w a .u8 zs) := hr
  have HS : Hid (St zs i l) := st
  clear hn hr st
  unfold WI
  go_enter Try.func41, Try.ntmps41
  go_wp2_with fail
  go_loopg [] l.length (fun k wr => ∃ j m, m.length = k ∧ i ≤ j ∧ St zs j m ∧ digL m = digL l ∧ wr = (w.alloc (.cells #[.slice a n c] 25)).alloc (.cells #[.int .i64 (j : Int)] 3))
  case atStart => exact ⟨i, l, rfl, Nat.le_refl _, HS.out, rfl, rfl⟩
  case round =>
    obtain ⟨j, m, hmk, hij, st, hd, rfl⟩ := hrel
    have hjn : j ≤ n := by have := st.2; have := HN.out; omega
    have A : Hid (m.length = gk ∧ St zs j m ∧ digL m = digL l) := ⟨hmk, st, hd⟩
    clear hmk st hd
    cases m with
    | nil =>
      have hlt : ¬ ((j : Int) < (n : Int)) := by have h1 := A.out.2.1.2; have h2 := HN.out; simp only [List.length_nil] at h1; omega
      have e : St zs j (digL l) := by rw [← A.out.2.2]; exact A.out.2.1
      have F : Hid (decide (i < j) = decide ((digL l).length < l.length)) := dig_end HS.out e
      have E : Hid (St zs j (digL l)) := e
      clear e
      go_wp2
      go_ret
      exact ⟨ret_bool F.out, j, E.out, rfl⟩
    | cons x m =>
      have hlt : ((j : Int) < (n : Int)) := by have h1 := A.out.2.1.2; have h2 := HN.out; simp only [List.length_cons] at h1; omega
      obtain ⟨b, ha, hc⟩ := HR.out j (by have := HN.out; omega)
      rw [A.out.2.1.head] at hc
      have hb := cell_lt hc
      subst ha
      by_cases h1 : 48 ≤ x ∧ x ≤ 57
      · obtain ⟨h1, h2⟩ := h1
        go_wp2
        go_roundg m.length
        case measure => have := A.out.1; simp only [List.length_cons] at this; omega
        case rel => exact ⟨j + 1, m, rfl, by omega, A.out.2.1.tail, by rw [← A.out.2.2, digL_yes h1 h2], by simp⟩
      · have e : St zs j (digL l) := by rw [← A.out.2.2, digL_no h1]; exact A.out.2.1
        have F : Hid (decide (i < j) = decide ((digL l).length < l.length)) := dig_end HS.out e
        have E : Hid (St zs j (digL l)) := e
        clear e
        by_cases h2 : 48 ≤ x
        · have h3 : ¬ x ≤ 57 := by omega
          go_wp2
          go_ret
          exact ⟨ret_bool F.out, j, E.out, rfl⟩
        · go_wp2
          go_ret
          exact ⟨ret_bool F.out, j, E.out, rfl⟩

theorem st_lt {zs : List Int} {i : Nat} {c : Int} {l : List Int} (h : St zs i (c :: l)) : i < zs.length := by
  have := h.2; simp only [List.length_cons] at this; omega
theorem st_end {zs : List Int} {i : Nat} (h : St zs i []) : i = zs.length := by
  have := h.2; simpa using this

/-- Behind the whole digits and the fraction: an exponent or nothing. -/
def Post (w : World) (b : Bool) (e : Ending) (w' : World) : Prop := e = .returned (.bool b) ∧ Below w.heap.size w w'

theorem wi_below (w : World) (a : Option Addr) (n c : Nat) (i : Int) : Below w.heap.size w (WI w a n c i) := by
  unfold WI
  exact ((Below.refl _ _).alloc (Nat.le_refl _) _).alloc (by simp) _

theorem fracE_yes {l : List Int} (h : (digL l).length < l.length) : fracE (46 :: l) = tailE (digL l) := by simp [fracE, h]
theorem fracE_no {l : List Int} (h : ¬ (digL l).length < l.length) : fracE (46 :: l) = false := by simp [fracE, h]
theorem fracE_other {x : Int} {l : List Int} (h : ¬ x = 46) : fracE (x :: l) = tailE (x :: l) := by simp [fracE, h]
theorem tailE_yes {y : Int} {m : List Int} (h : y = 101 ∨ y = 69) : tailE (y :: m) = (if (digL (signL m)).length < (signL m).length then (digL (signL m)).isEmpty else false) := by simp [tailE, h]
theorem tailE_no {y : Int} {m : List Int} (h : ¬ (y = 101 ∨ y = 69)) : tailE (y :: m) = false := by simp [tailE, h]
theorem fin_eq {n : Nat} {zs l : List Int} {i : Nat} (hn : n = zs.length) (h : St zs i l) : ((i : Int) == (n : Int)) = l.isEmpty := by
  have h2 := h.2
  cases l with
  | nil => simp only [List.length_nil] at h2; simp; omega
  | cons y m => simp only [List.length_cons] at h2; simp; omega

set_option maxHeartbeats 2000000 in
theorem isDecimal_any (w : World) (a : Option Addr) (n c : Nat) (zs : List Int) (hn : n = zs.length) (hm : n ≤ 4194304) (hr : Rd w a .u8 zs) :
    Calls Try.prog 36 #[.slice a n c] w fun e w' => e = .returned (.bool (isDec zs)) ∧ Below w.heap.size w w' := by
  have HN : Hid (n = zs.length) := hn
  have HR : Hid (Rd w a .u8 zs) := hr
  clear hn hr
  have st0 : Hid (St zs 0 zs) := ⟨rfl, by simp⟩
  go_enter Try.func36, Try.ntmps36
  go_wp2_with fail
  refine (sign_any w a n c zs HN.out hm HR.out 0 zs st0.out _ (by first | rfl | omega)).mono ?_
  rintro e w1 ⟨rfl, i1, st1, rfl⟩
  unfold WI
  have S1 : Hid (St zs i1 (signL zs)) := st1
  clear st1
  go_wp2_with fail
  refine (digits_any w a n c zs HN.out hm HR.out i1 (signL zs) S1.out _ (by first | rfl | omega)).mono ?_
  rintro e w2 ⟨rfl, i2, st2, rfl⟩
  unfold WI
  have S2 : Hid (St zs i2 (digL (signL zs))) := st2
  clear st2
  by_cases h1 : (digL (signL zs)).length < (signL zs).length
  · have g1 : decide ((digL (signL zs)).length < (signL zs).length) = true := decide_eq_true h1
    have HF : Hid (isDec zs = fracE (digL (signL zs))) := if_pos h1
    clear h1
    rw [g1]
    clear g1 S1
    generalize hl : digL (signL zs) = l2 at S2 HF
    clear hl
    cases l2 with
    | nil =>
      have hlt : ¬ ((i2 : Int) < (n : Int)) := by have h1 := st_end S2.out; have h2 := HN.out; omega
      have heq : ((i2 : Int) == (n : Int)) = true := beq_iff_eq.2 (by have h1 := st_end S2.out; have h2 := HN.out; omega)
      go_wp2
      go_ret
      exact ⟨ret_bool (HF.out.symm), wi_below w a n c i2⟩
    | cons x l3 =>
      by_cases hx : x = 46
      · have hlt : ((i2 : Int) < (n : Int)) := by have h1 := st_lt S2.out; have h2 := HN.out; omega
        obtain ⟨b, ha, hc⟩ := HR.out i2 (by have := HN.out; omega)
        rw [S2.out.head] at hc
        have hb := cell_lt hc
        subst ha
        subst hx
        have S3 : Hid (St zs (i2 + 1) l3) := S2.out.tail
        go_wp2_with fail
        refine (digits_any w (some ⟨b, 0, none⟩) n c zs HN.out hm HR.out (i2 + 1) l3 S3.out _ (by first | rfl | omega)).mono ?_
        rintro e w3 ⟨rfl, i4, st4, rfl⟩
        unfold WI
        have S4 : Hid (St zs i4 (digL l3)) := st4
        clear st4 hc hb hlt
        by_cases h4 : (digL l3).length < l3.length
        · have g4 : decide ((digL l3).length < l3.length) = true := decide_eq_true h4
          have HF4 : Hid (isDec zs = tailE (digL l3)) := HF.out.trans (fracE_yes h4)
          clear h4
          rw [g4]
          clear g4
          generalize hl : digL l3 = l4 at S4 HF4
          clear hl
          generalize ha : (some (⟨b, 0, none⟩ : Addr)) = a at HR ⊢
          clear ha
          cases l4 with
          | nil =>
            have hlt : ¬ ((i4 : Int) < (n : Int)) := by have h1 := st_end S4.out; have h2 := HN.out; omega
            have heq : ((i4 : Int) == (n : Int)) = true := beq_iff_eq.2 (by have h1 := st_end S4.out; have h2 := HN.out; omega)
            go_wp2
            go_ret
            exact ⟨ret_bool (HF4.out.symm), wi_below w a n c i4⟩
          | cons y m =>
            have hlt : ((i4 : Int) < (n : Int)) := by have h1 := st_lt S4.out; have h2 := HN.out; omega
            obtain ⟨b, ha, hc⟩ := HR.out i4 (by have := HN.out; omega)
            rw [S4.out.head] at hc
            have hb := cell_lt hc
            subst ha
            by_cases hy : y = 101 ∨ y = 69
            · have HF2 : Hid (isDec zs = (if (digL (signL m)).length < (signL m).length then (digL (signL m)).isEmpty else false)) := HF4.out.trans (tailE_yes hy)
              have S5 : Hid (St zs (i4 + 1) m) := S4.out.tail
              rcases hy with hy | hy
              · subst hy
                go_wp2_with fail
                clear hc hb hlt
                refine (sign_any w (some ⟨b, 0, none⟩) n c zs HN.out hm HR.out (i4 + 1) m S5.out _ (by first | rfl | omega)).mono ?_
                rintro e w5 ⟨rfl, i6, st6, rfl⟩
                unfold WI
                have S6 : Hid (St zs i6 (signL m)) := st6
                clear st6
                go_wp2_with fail
                refine (digits_any w (some ⟨b, 0, none⟩) n c zs HN.out hm HR.out i6 (signL m) S6.out _ (by first | rfl | omega)).mono ?_
                rintro e w6 ⟨rfl, i7, st7, rfl⟩
                unfold WI
                have S7 : Hid (St zs i7 (digL (signL m))) := st7
                clear st7
                by_cases h7 : (digL (signL m)).length < (signL m).length
                · have g7 : decide ((digL (signL m)).length < (signL m).length) = true := decide_eq_true h7
                  have HF3 : Hid (isDec zs = (digL (signL m)).isEmpty) := HF2.out.trans (if_pos h7)
                  clear h7
                  rw [g7]
                  clear g7
                  have F : Hid (((i7 : Int) == (n : Int)) = (digL (signL m)).isEmpty) := fin_eq HN.out S7.out
                  go_wp2
                  go_ret
                  exact ⟨ret_bool (F.out.trans HF3.out.symm), wi_below w (some ⟨b, 0, none⟩) n c i7⟩
                · have g7 : decide ((digL (signL m)).length < (signL m).length) = false := decide_eq_false h7
                  have HF3 : Hid (isDec zs = false) := HF2.out.trans (if_neg h7)
                  clear h7
                  rw [g7]
                  clear g7
                  go_wp2
                  go_ret
                  exact ⟨ret_bool HF3.out.symm, wi_below w (some ⟨b, 0, none⟩) n c i7⟩
              · subst hy
                go_wp2_with fail
                clear hc hb hlt
                refine (sign_any w (some ⟨b, 0, none⟩) n c zs HN.out hm HR.out (i4 + 1) m S5.out _ (by first | rfl | omega)).mono ?_
                rintro e w5 ⟨rfl, i6, st6, rfl⟩
                unfold WI
                have S6 : Hid (St zs i6 (signL m)) := st6
                clear st6
                go_wp2_with fail
                refine (digits_any w (some ⟨b, 0, none⟩) n c zs HN.out hm HR.out i6 (signL m) S6.out _ (by first | rfl | omega)).mono ?_
                rintro e w6 ⟨rfl, i7, st7, rfl⟩
                unfold WI
                have S7 : Hid (St zs i7 (digL (signL m))) := st7
                clear st7
                by_cases h7 : (digL (signL m)).length < (signL m).length
                · have g7 : decide ((digL (signL m)).length < (signL m).length) = true := decide_eq_true h7
                  have HF3 : Hid (isDec zs = (digL (signL m)).isEmpty) := HF2.out.trans (if_pos h7)
                  clear h7
                  rw [g7]
                  clear g7
                  have F : Hid (((i7 : Int) == (n : Int)) = (digL (signL m)).isEmpty) := fin_eq HN.out S7.out
                  go_wp2
                  go_ret
                  exact ⟨ret_bool (F.out.trans HF3.out.symm), wi_below w (some ⟨b, 0, none⟩) n c i7⟩
                · have g7 : decide ((digL (signL m)).length < (signL m).length) = false := decide_eq_false h7
                  have HF3 : Hid (isDec zs = false) := HF2.out.trans (if_neg h7)
                  clear h7
                  rw [g7]
                  clear g7
                  go_wp2
                  go_ret
                  exact ⟨ret_bool HF3.out.symm, wi_below w (some ⟨b, 0, none⟩) n c i7⟩
            · have HF2 : Hid (isDec zs = false) := HF4.out.trans (tailE_no hy)
              have e1 : (y == 101) = false := by rw [beq_eq_false_iff_ne]; omega
              have e2 : (y == 69) = false := by rw [beq_eq_false_iff_ne]; omega
              have heq : ((i4 : Int) == (n : Int)) = false := by rw [beq_eq_false_iff_ne]; omega
              go_wp2
              go_ret
              exact ⟨ret_bool HF2.out.symm, wi_below w (some ⟨b, 0, none⟩) n c i4⟩
        · have g4 : decide ((digL l3).length < l3.length) = false := decide_eq_false h4
          have HF4 : Hid (isDec zs = false) := HF.out.trans (fracE_no h4)
          clear h4
          rw [g4]
          clear g4
          go_wp2
          go_ret
          exact ⟨ret_bool HF4.out.symm, wi_below w (some ⟨b, 0, none⟩) n c i4⟩
      · have HF4 : Hid (isDec zs = tailE (x :: l3)) := HF.out.trans (fracE_other hx)
        have hlt : ((i2 : Int) < (n : Int)) := by have h1 := st_lt S2.out; have h2 := HN.out; omega
        obtain ⟨b, ha, hc⟩ := HR.out i2 (by have := HN.out; omega)
        rw [S2.out.head] at hc
        have hb := cell_lt hc
        subst ha
        have e0 : (x == 46) = false := by rw [beq_eq_false_iff_ne]; omega
        by_cases hy : x = 101 ∨ x = 69
        · have HF2 : Hid (isDec zs = (if (digL (signL l3)).length < (signL l3).length then (digL (signL l3)).isEmpty else false)) := HF4.out.trans (tailE_yes hy)
          have S5 : Hid (St zs (i2 + 1) l3) := S2.out.tail
          rcases hy with hy | hy
          · subst hy
            go_wp2_with fail
            clear hc hb hlt
            refine (sign_any w (some ⟨b, 0, none⟩) n c zs HN.out hm HR.out (i2 + 1) l3 S5.out _ (by first | rfl | omega)).mono ?_
            rintro e w5 ⟨rfl, i6, st6, rfl⟩
            unfold WI
            have S6 : Hid (St zs i6 (signL l3)) := st6
            clear st6
            go_wp2_with fail
            refine (digits_any w (some ⟨b, 0, none⟩) n c zs HN.out hm HR.out i6 (signL l3) S6.out _ (by first | rfl | omega)).mono ?_
            rintro e w6 ⟨rfl, i7, st7, rfl⟩
            unfold WI
            have S7 : Hid (St zs i7 (digL (signL l3))) := st7
            clear st7
            by_cases h7 : (digL (signL l3)).length < (signL l3).length
            · have g7 : decide ((digL (signL l3)).length < (signL l3).length) = true := decide_eq_true h7
              have HF3 : Hid (isDec zs = (digL (signL l3)).isEmpty) := HF2.out.trans (if_pos h7)
              clear h7
              rw [g7]
              clear g7
              have F : Hid (((i7 : Int) == (n : Int)) = (digL (signL l3)).isEmpty) := fin_eq HN.out S7.out
              go_wp2
              go_ret
              exact ⟨ret_bool (F.out.trans HF3.out.symm), wi_below w (some ⟨b, 0, none⟩) n c i7⟩
            · have g7 : decide ((digL (signL l3)).length < (signL l3).length) = false := decide_eq_false h7
              have HF3 : Hid (isDec zs = false) := HF2.out.trans (if_neg h7)
              clear h7
              rw [g7]
              clear g7
              go_wp2
              go_ret
              exact ⟨ret_bool HF3.out.symm, wi_below w (some ⟨b, 0, none⟩) n c i7⟩
          · subst hy
            go_wp2_with fail
            clear hc hb hlt
            refine (sign_any w (some ⟨b, 0, none⟩) n c zs HN.out hm HR.out (i2 + 1) l3 S5.out _ (by first | rfl | omega)).mono ?_
            rintro e w5 ⟨rfl, i6, st6, rfl⟩
            unfold WI
            have S6 : Hid (St zs i6 (signL l3)) := st6
            clear st6
            go_wp2_with fail
            refine (digits_any w (some ⟨b, 0, none⟩) n c zs HN.out hm HR.out i6 (signL l3) S6.out _ (by first | rfl | omega)).mono ?_
            rintro e w6 ⟨rfl, i7, st7, rfl⟩
            unfold WI
            have S7 : Hid (St zs i7 (digL (signL l3))) := st7
            clear st7
            by_cases h7 : (digL (signL l3)).length < (signL l3).length
            · have g7 : decide ((digL (signL l3)).length < (signL l3).length) = true := decide_eq_true h7
              have HF3 : Hid (isDec zs = (digL (signL l3)).isEmpty) := HF2.out.trans (if_pos h7)
              clear h7
              rw [g7]
              clear g7
              have F : Hid (((i7 : Int) == (n : Int)) = (digL (signL l3)).isEmpty) := fin_eq HN.out S7.out
              go_wp2
              go_ret
              exact ⟨ret_bool (F.out.trans HF3.out.symm), wi_below w (some ⟨b, 0, none⟩) n c i7⟩
            · have g7 : decide ((digL (signL l3)).length < (signL l3).length) = false := decide_eq_false h7
              have HF3 : Hid (isDec zs = false) := HF2.out.trans (if_neg h7)
              clear h7
              rw [g7]
              clear g7
              go_wp2
              go_ret
              exact ⟨ret_bool HF3.out.symm, wi_below w (some ⟨b, 0, none⟩) n c i7⟩
        · have HF2 : Hid (isDec zs = false) := HF4.out.trans (tailE_no hy)
          have e1 : (x == 101) = false := by rw [beq_eq_false_iff_ne]; omega
          have e2 : (x == 69) = false := by rw [beq_eq_false_iff_ne]; omega
          have heq : ((i2 : Int) == (n : Int)) = false := by rw [beq_eq_false_iff_ne]; omega
          go_wp2
          go_ret
          exact ⟨ret_bool HF2.out.symm, wi_below w (some ⟨b, 0, none⟩) n c i2⟩
  · have g1 : decide ((digL (signL zs)).length < (signL zs).length) = false := decide_eq_false h1
    have HF : Hid (isDec zs = false) := if_neg h1
    clear h1
    go_wp2
    go_ret
    exact ⟨ret_bool HF.out.symm, wi_below w a n c i2⟩

theorem zIsDecimal_any (w : World) (a : Option Addr) (n c : Nat) (zs : List Int) (hn : n = zs.length) (hm : n ≤ 4194304) (hr : Rd w a .u8 zs) :
    Calls Try.prog 24 #[.slice a n c] w fun e w' => e = .returned (.bool (isDec zs)) ∧ Below w.heap.size w w' := by
  have HN : Hid (n = zs.length) := hn
  have HR : Hid (Rd w a .u8 zs) := hr
  clear hn hr
  go_enter Try.func24, Try.ntmps24
  go_wp2_with fail
  refine (isDecimal_any w a n c zs HN.out hm HR.out).mono ?_
  rintro e w1 ⟨rfl, hb⟩
  go_wp2
  go_ret
  exact ⟨rfl, hb⟩
end Go.Proofs.Qxb6600394a.Dc
