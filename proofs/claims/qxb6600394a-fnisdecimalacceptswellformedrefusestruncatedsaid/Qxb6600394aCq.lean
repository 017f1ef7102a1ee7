import Derived.Test.Qxb6600394aCo
namespace Go.Proofs.Qxb6600394a.Dc
open Go.RowKit Cl

theorem cell_block_lt {w : World} {p : Addr} {v : Value} (h : w.cell? p = some v) : p.block < w.heap.size := by
  rcases Nat.lt_or_ge p.block w.heap.size with h' | h'
  · exact h'
  · simp [World.cell?, Array.getElem?_eq_none h'] at h
theorem IsRow.later {k : IntKind} {w w' : World} {a : Option Addr} {len cap : Nat} {zs : List Int} (h : IsRow k w a len cap zs) (hb : Below w.heap.size w w') : IsRow k w' a len cap zs := by
  rcases h with h | ⟨x, h0, h1, h2, h3, h4, h5⟩
  · exact Or.inl h
  · exact Or.inr ⟨x, h0, h1, h2, h3, fun i hi => (hb.cell (cell_block_lt (h4 i hi))).trans (h4 i hi), h5⟩
theorem IsRow.len {k : IntKind} {w : World} {a : Option Addr} {len cap : Nat} {zs : List Int} (h : IsRow k w a len cap zs) : len ≤ maxLen := by
  rcases h with ⟨_, rfl, _, _⟩ | ⟨x, _, h1, h2, _⟩
  · exact Nat.zero_le _
  · omega

theorem clone_src (w : World) (a : Option Addr) (len cap : Nat) (zs : List Int) (h : IsRow .u8 w a len cap zs) (hl : len ≤ 1048576) :
    Calls Try.prog 23 #[.slice a len cap] w fun e w' => ∃ (a' : Option Addr) (ys : List Int), e = .returned (.slice a' len len) ∧ Src w' a' len len ys ∧ Below w.heap.size w w' := by
  refine (clone_row w a len cap zs h hl).mono ?_
  rintro e w' ⟨a', n', ys, rfl, h1, h2, _, h3, _, h4⟩
  subst h2
  refine ⟨a', ys, rfl, ⟨h1.symm, fun ha => ?_, h3⟩, h4⟩
  rcases Nat.eq_zero_or_pos n' with h0 | h0
  · exact ⟨h0, h0⟩
  · obtain ⟨b, hb, _⟩ := h3 0 (by omega)
    rw [hb] at ha
    simp at ha

set_option maxHeartbeats 400000 in
theorem allDigits_any (w : World) (a : Option Addr) (n c : Nat) (zs : List Int) (hs : Src w a n c zs) (hm : n ≤ 4194304) :
    Calls Try.prog 27 #[.slice a n c] w fun e w' => e = .returned (.bool (zs.all isDig)) ∧ w' = w := by
  have HN : Hid (n = zs.length) := hs.1.symm
  have HR : Hid (Rd w a .u8 zs) := hs.2.2
  clear hs
  go_enter Try.func27, Try.ntmps27
  go_wp2_with fail
  go_loopg [3] zs.length (fun k i wr => wr = w ∧ ∃ (j : Nat) (m : List Int), i = .int .i64 (j : Int) ∧ m.length = k ∧ St zs j m ∧ zs.all isDig = m.all isDig)
  case atStart => exact ⟨rfl, 0, zs, rfl, rfl, ⟨rfl, by simp⟩, rfl⟩
  case round =>
    obtain ⟨rfl, j, m, rfl, hmk, st, hd⟩ := hrel
    have hjn : j ≤ n := by have := st.2; have := HN.out; omega
    have A : Hid (m.length = gk ∧ St zs j m ∧ zs.all isDig = m.all isDig) := ⟨hmk, st, hd⟩
    clear hmk st hd
    cases m with
    | nil =>
      have hlt : ¬ ((j : Int) < (n : Int)) := by have h1 := A.out.2.1.2; have h2 := HN.out; simp only [List.length_nil] at h1; omega
      have F : Hid (true = zs.all isDig) := A.out.2.2.symm
      go_wp2
      go_ret
      exact ⟨ret_bool F.out, rfl⟩
    | cons x m =>
      have hlt : ((j : Int) < (n : Int)) := by have h1 := A.out.2.1.2; have h2 := HN.out; simp only [List.length_cons] at h1; omega
      obtain ⟨b, ha, hc⟩ := HR.out j (by have := HN.out; omega)
      rw [A.out.2.1.head] at hc
      have hb := cell_lt hc
      subst ha
      by_cases h1 : 48 ≤ x ∧ x ≤ 57
      · obtain ⟨h1, h2⟩ := h1
        have g1 : ¬ x < 48 := by omega
        have g2 : ¬ 57 < x := by omega
        go_wp2
        go_roundg m.length
        case measure => have := A.out.1; simp only [List.length_cons] at this; omega
        case rel => exact ⟨rfl, j + 1, m, by go_num, rfl, A.out.2.1.tail, by rw [A.out.2.2, List.all_cons, isDig_yes h1 h2, Bool.true_and]⟩
      · have F : Hid (false = zs.all isDig) := by
          rw [A.out.2.2, List.all_cons, show isDig x = false from decide_eq_false h1, Bool.false_and]; exact rfl
        by_cases h2 : x < 48
        · go_wp2
          go_ret
          exact ⟨ret_bool F.out, rfl⟩
        · have h3 : 57 < x := by omega
          go_wp2
          go_ret
          exact ⟨ret_bool F.out, rfl⟩

set_option maxHeartbeats 1000000 in
theorem bytes26 (s : Int) (a1 : Option Addr) (n1 c1 : Nat) (hF : Bool) (a2 : Option Addr) (n2 c2 : Nat) (hE up : Bool) (es : Int) (a3 : Option Addr) (n3 c3 : Nat) (w : World) (h1 : n1 ≤ maxLen) (h2 : n2 ≤ maxLen) (h3 : n3 ≤ maxLen) :
    Calls Try.prog 26 #[.int .u8 s, .slice a1 n1 c1, .bool hF, .slice a2 n2 c2, .bool hE, .bool up, .int .u8 es, .slice a3 n3 c3] w fun e w' => e = .returned (.bool (decide (n1 + n2 + n3 ≤ 1048576))) ∧ w' = w := by
  unfold maxLen at h1 h2 h3
  by_cases h : n1 + n2 + n3 ≤ 1048576
  · have e : decide (n1 + n2 + n3 ≤ 1048576) = true := decide_eq_true h
    rw [e]
    clear e
    go_enter Try.func26, Try.ntmps26
    go_wp2
    go_ret
    exact ⟨rfl, rfl⟩
  · have e : decide (n1 + n2 + n3 ≤ 1048576) = false := decide_eq_false h
    rw [e]
    clear e
    go_enter Try.func26, Try.ntmps26
    go_wp2
    all_goals (
      go_ret
      exact ⟨rfl, rfl⟩)
end Go.Proofs.Qxb6600394a.Dc
