import Derived.Test.Qxb6600394aDc
namespace Go.Proofs.Qxb6600394a.Dc
open Go.RowKit

def stp (s : Nat) (x : Int) : Option Nat :=
  if isDig x = true then some (if s ≤ 2 then 2 else if s ≤ 4 then 4 else 7)
  else if x = 43 ∨ x = 45 then (if s = 0 then some 1 else if s = 5 then some 6 else none)
  else if x = 101 ∨ x = 69 then (if s = 2 ∨ s = 4 then some 5 else none)
  else if x = 46 then (if s = 2 then some 3 else none)
  else none
def autR : Nat → List Int → Bool
  | s, [] => s == 2 || s == 4 || s == 7
  | s, x :: m => match stp s x with
    | some s' => autR s' m
    | none => false

theorem aut_go {s s' : Nat} {x : Int} {m : List Int} (h : stp s x = some s') : autR s (x :: m) = autR s' m := by simp [autR, h]
theorem aut_no {s : Nat} {x : Int} {m : List Int} (h : stp s x = none) : autR s (x :: m) = false := by simp [autR, h]

theorem isDig_yes {x : Int} (h1 : 48 ≤ x) (h2 : x ≤ 57) : isDig x = true := by simp [isDig, h1, h2]

theorem stp_dig {s : Nat} {x : Int} (h1 : 48 ≤ x) (h2 : x ≤ 57) : stp s x = some (if s ≤ 2 then 2 else if s ≤ 4 then 4 else 7) := if_pos (isDig_yes h1 h2)
theorem stp_other {s : Nat} {x : Int} (h0 : x < 48 ∨ 57 < x) (h1 : (x == 43) = false) (h2 : (x == 45) = false) (h3 : (x == 46) = false) (h4 : (x == 101) = false) (h5 : (x == 69) = false) : stp s x = none := by
  rw [beq_eq_false_iff_ne] at h1 h2 h3 h4 h5
  have hd : ¬ isDig x = true := by simp [isDig]; omega
  unfold stp
  rw [if_neg hd, if_neg (by omega), if_neg (by omega), if_neg (by omega)]
theorem classes (x : Int) : ((48 ≤ x ∧ x ≤ 57) ∧ (x == 43) = false ∧ (x == 45) = false ∧ (x == 46) = false ∧ (x == 101) = false ∧ (x == 69) = false) ∨ x = 43 ∨ x = 45 ∨ x = 46 ∨ x = 101 ∨ x = 69 ∨ ((x < 48 ∨ 57 < x) ∧ (x == 43) = false ∧ (x == 45) = false ∧ (x == 46) = false ∧ (x == 101) = false ∧ (x == 69) = false) := by
  simp only [beq_eq_false_iff_ne]
  omega

theorem states (s : Nat) (h : s ≤ 7) : s = 0 ∨ s = 1 ∨ s = 2 ∨ s = 3 ∨ s = 4 ∨ s = 5 ∨ s = 6 ∨ s = 7 := by omega

set_option maxHeartbeats 4000000 in
theorem automaton_any (w : World) (a : Option Addr) (n c : Nat) (zs : List Int) (hn : n = zs.length) (hm : n ≤ 4194304) (hr : Rd w a .u8 zs) :
    Calls Try.prog 25 #[.slice a n c] w fun e w' => e = .returned (.bool (autR 0 zs)) ∧ w' = w := by
  have HN : Hid (n = zs.length) := hn
  have HR : Hid (Rd w a .u8 zs) := hr
  clear hn hr
  go_enter Try.func25, Try.ntmps25
  go_wp2_with fail
  go_loopg [3, 4] zs.length (fun k t i wr => wr = w ∧ ∃ (s j : Nat) (m : List Int), s ≤ 7 ∧ t = .int .i64 (s : Int) ∧ i = .int .i64 (j : Int) ∧ m.length = k ∧ St zs j m ∧ autR s m = autR 0 zs)
  case atStart => exact ⟨rfl, 0, 0, zs, by omega, rfl, rfl, rfl, ⟨rfl, by simp⟩, rfl⟩
  case round =>
    obtain ⟨rfl, s, j, m, hs, rfl, rfl, hmk, st, hd⟩ := hrel
    have hjn : j ≤ n := by have := st.2; have := HN.out; omega
    have A : Hid (m.length = gk ∧ St zs j m ∧ autR s m = autR 0 zs) := ⟨hmk, st, hd⟩
    clear hmk st hd
    cases m with
    | nil =>
      have hlt : ¬ ((j : Int) < (n : Int)) := by have h1 := A.out.2.1.2; have h2 := HN.out; simp only [List.length_nil] at h1; omega
      have F : Hid ((s == 2 || s == 4 || s == 7) = autR 0 zs) := A.out.2.2
      clear A
      rcases states s hs with rfl | rfl | rfl | rfl | rfl | rfl | rfl | rfl
      all_goals (
        go_wp2
        go_ret
        exact ⟨ret_bool F.out, rfl⟩)
    | cons x m =>
      have hlt : ((j : Int) < (n : Int)) := by have h1 := A.out.2.1.2; have h2 := HN.out; simp only [List.length_cons] at h1; omega
      obtain ⟨b, ha, hc⟩ := HR.out j (by have := HN.out; omega)
      rw [A.out.2.1.head] at hc
      have hb := cell_lt hc
      subst ha
      have hml : Hid (m.length < gk) := by have := A.out.1; simp only [List.length_cons] at this; show _ < _; omega
      have ST : Hid (St zs (j + 1) m) := A.out.2.1.tail
      have AU : Hid (autR s (x :: m) = autR 0 zs) := A.out.2.2
      clear A
      rcases classes x with ⟨⟨h1, h2⟩, h3, h4, h5, h6, h7⟩ | rfl | rfl | rfl | rfl | rfl | ⟨h0, h1, h2, h3, h4, h5⟩
      · rcases states s hs with rfl | rfl | rfl | rfl | rfl | rfl | rfl | rfl
        · have AV : Hid (autR 2 m = autR 0 zs) := (aut_go (stp_dig h1 h2)).symm.trans AU.out
          clear AU
          go_wp2
          go_roundg m.length
          case measure => exact hml.out
          case rel => exact ⟨rfl, 2, j + 1, m, by omega, rfl, by go_num, rfl, ST.out, AV.out⟩
        · have AV : Hid (autR 2 m = autR 0 zs) := (aut_go (stp_dig h1 h2)).symm.trans AU.out
          clear AU
          go_wp2
          go_roundg m.length
          case measure => exact hml.out
          case rel => exact ⟨rfl, 2, j + 1, m, by omega, rfl, by go_num, rfl, ST.out, AV.out⟩
        · have AV : Hid (autR 2 m = autR 0 zs) := (aut_go (stp_dig h1 h2)).symm.trans AU.out
          clear AU
          go_wp2
          go_roundg m.length
          case measure => exact hml.out
          case rel => exact ⟨rfl, 2, j + 1, m, by omega, rfl, by go_num, rfl, ST.out, AV.out⟩
        · have AV : Hid (autR 4 m = autR 0 zs) := (aut_go (stp_dig h1 h2)).symm.trans AU.out
          clear AU
          go_wp2
          go_roundg m.length
          case measure => exact hml.out
          case rel => exact ⟨rfl, 4, j + 1, m, by omega, rfl, by go_num, rfl, ST.out, AV.out⟩
        · have AV : Hid (autR 4 m = autR 0 zs) := (aut_go (stp_dig h1 h2)).symm.trans AU.out
          clear AU
          go_wp2
          go_roundg m.length
          case measure => exact hml.out
          case rel => exact ⟨rfl, 4, j + 1, m, by omega, rfl, by go_num, rfl, ST.out, AV.out⟩
        · have AV : Hid (autR 7 m = autR 0 zs) := (aut_go (stp_dig h1 h2)).symm.trans AU.out
          clear AU
          go_wp2
          go_roundg m.length
          case measure => exact hml.out
          case rel => exact ⟨rfl, 7, j + 1, m, by omega, rfl, by go_num, rfl, ST.out, AV.out⟩
        · have AV : Hid (autR 7 m = autR 0 zs) := (aut_go (stp_dig h1 h2)).symm.trans AU.out
          clear AU
          go_wp2
          go_roundg m.length
          case measure => exact hml.out
          case rel => exact ⟨rfl, 7, j + 1, m, by omega, rfl, by go_num, rfl, ST.out, AV.out⟩
        · have AV : Hid (autR 7 m = autR 0 zs) := (aut_go (stp_dig h1 h2)).symm.trans AU.out
          clear AU
          go_wp2
          go_roundg m.length
          case measure => exact hml.out
          case rel => exact ⟨rfl, 7, j + 1, m, by omega, rfl, by go_num, rfl, ST.out, AV.out⟩
      · rcases states s hs with rfl | rfl | rfl | rfl | rfl | rfl | rfl | rfl
        · have AV : Hid (autR 1 m = autR 0 zs) := (aut_go (by decide)).symm.trans AU.out
          clear AU
          go_wp2
          go_roundg m.length
          case measure => exact hml.out
          case rel => exact ⟨rfl, 1, j + 1, m, by omega, rfl, by go_num, rfl, ST.out, AV.out⟩
        · have AV : Hid (autR 0 zs = false) := AU.out.symm.trans (aut_no (by decide))
          clear AU
          go_wp2
          go_ret
          exact ⟨ret_bool AV.out.symm, rfl⟩
        · have AV : Hid (autR 0 zs = false) := AU.out.symm.trans (aut_no (by decide))
          clear AU
          go_wp2
          go_ret
          exact ⟨ret_bool AV.out.symm, rfl⟩
        · have AV : Hid (autR 0 zs = false) := AU.out.symm.trans (aut_no (by decide))
          clear AU
          go_wp2
          go_ret
          exact ⟨ret_bool AV.out.symm, rfl⟩
        · have AV : Hid (autR 0 zs = false) := AU.out.symm.trans (aut_no (by decide))
          clear AU
          go_wp2
          go_ret
          exact ⟨ret_bool AV.out.symm, rfl⟩
        · have AV : Hid (autR 6 m = autR 0 zs) := (aut_go (by decide)).symm.trans AU.out
          clear AU
          go_wp2
          go_roundg m.length
          case measure => exact hml.out
          case rel => exact ⟨rfl, 6, j + 1, m, by omega, rfl, by go_num, rfl, ST.out, AV.out⟩
        · have AV : Hid (autR 0 zs = false) := AU.out.symm.trans (aut_no (by decide))
          clear AU
          go_wp2
          go_ret
          exact ⟨ret_bool AV.out.symm, rfl⟩
        · have AV : Hid (autR 0 zs = false) := AU.out.symm.trans (aut_no (by decide))
          clear AU
          go_wp2
          go_ret
          exact ⟨ret_bool AV.out.symm, rfl⟩
      · rcases states s hs with rfl | rfl | rfl | rfl | rfl | rfl | rfl | rfl
        · have AV : Hid (autR 1 m = autR 0 zs) := (aut_go (by decide)).symm.trans AU.out
          clear AU
          go_wp2
          go_roundg m.length
          case measure => exact hml.out
          case rel => exact ⟨rfl, 1, j + 1, m, by omega, rfl, by go_num, rfl, ST.out, AV.out⟩
        · have AV : Hid (autR 0 zs = false) := AU.out.symm.trans (aut_no (by decide))
          clear AU
          go_wp2
          go_ret
          exact ⟨ret_bool AV.out.symm, rfl⟩
        · have AV : Hid (autR 0 zs = false) := AU.out.symm.trans (aut_no (by decide))
          clear AU
          go_wp2
          go_ret
          exact ⟨ret_bool AV.out.symm, rfl⟩
        · have AV : Hid (autR 0 zs = false) := AU.out.symm.trans (aut_no (by decide))
          clear AU
          go_wp2
          go_ret
          exact ⟨ret_bool AV.out.symm, rfl⟩
        · have AV : Hid (autR 0 zs = false) := AU.out.symm.trans (aut_no (by decide))
          clear AU
          go_wp2
          go_ret
          exact ⟨ret_bool AV.out.symm, rfl⟩
        · have AV : Hid (autR 6 m = autR 0 zs) := (aut_go (by decide)).symm.trans AU.out
          clear AU
          go_wp2
          go_roundg m.length
          case measure => exact hml.out
          case rel => exact ⟨rfl, 6, j + 1, m, by omega, rfl, by go_num, rfl, ST.out, AV.out⟩
        · have AV : Hid (autR 0 zs = false) := AU.out.symm.trans (aut_no (by decide))
          clear AU
          go_wp2
          go_ret
          exact ⟨ret_bool AV.out.symm, rfl⟩
        · have AV : Hid (autR 0 zs = false) := AU.out.symm.trans (aut_no (by decide))
          clear AU
          go_wp2
          go_ret
          exact ⟨ret_bool AV.out.symm, rfl⟩
      · rcases states s hs with rfl | rfl | rfl | rfl | rfl | rfl | rfl | rfl
        · have AV : Hid (autR 0 zs = false) := AU.out.symm.trans (aut_no (by decide))
          clear AU
          go_wp2
          go_ret
          exact ⟨ret_bool AV.out.symm, rfl⟩
        · have AV : Hid (autR 0 zs = false) := AU.out.symm.trans (aut_no (by decide))
          clear AU
          go_wp2
          go_ret
          exact ⟨ret_bool AV.out.symm, rfl⟩
        · have AV : Hid (autR 3 m = autR 0 zs) := (aut_go (by decide)).symm.trans AU.out
          clear AU
          go_wp2
          go_roundg m.length
          case measure => exact hml.out
          case rel => exact ⟨rfl, 3, j + 1, m, by omega, rfl, by go_num, rfl, ST.out, AV.out⟩
        · have AV : Hid (autR 0 zs = false) := AU.out.symm.trans (aut_no (by decide))
          clear AU
          go_wp2
          go_ret
          exact ⟨ret_bool AV.out.symm, rfl⟩
        · have AV : Hid (autR 0 zs = false) := AU.out.symm.trans (aut_no (by decide))
          clear AU
          go_wp2
          go_ret
          exact ⟨ret_bool AV.out.symm, rfl⟩
        · have AV : Hid (autR 0 zs = false) := AU.out.symm.trans (aut_no (by decide))
          clear AU
          go_wp2
          go_ret
          exact ⟨ret_bool AV.out.symm, rfl⟩
        · have AV : Hid (autR 0 zs = false) := AU.out.symm.trans (aut_no (by decide))
          clear AU
          go_wp2
          go_ret
          exact ⟨ret_bool AV.out.symm, rfl⟩
        · have AV : Hid (autR 0 zs = false) := AU.out.symm.trans (aut_no (by decide))
          clear AU
          go_wp2
          go_ret
          exact ⟨ret_bool AV.out.symm, rfl⟩
      · rcases states s hs with rfl | rfl | rfl | rfl | rfl | rfl | rfl | rfl
        · have AV : Hid (autR 0 zs = false) := AU.out.symm.trans (aut_no (by decide))
          clear AU
          go_wp2
          go_ret
          exact ⟨ret_bool AV.out.symm, rfl⟩
        · have AV : Hid (autR 0 zs = false) := AU.out.symm.trans (aut_no (by decide))
          clear AU
          go_wp2
          go_ret
          exact ⟨ret_bool AV.out.symm, rfl⟩
        · have AV : Hid (autR 5 m = autR 0 zs) := (aut_go (by decide)).symm.trans AU.out
          clear AU
          go_wp2
          go_roundg m.length
          case measure => exact hml.out
          case rel => exact ⟨rfl, 5, j + 1, m, by omega, rfl, by go_num, rfl, ST.out, AV.out⟩
        · have AV : Hid (autR 0 zs = false) := AU.out.symm.trans (aut_no (by decide))
          clear AU
          go_wp2
          go_ret
          exact ⟨ret_bool AV.out.symm, rfl⟩
        · have AV : Hid (autR 5 m = autR 0 zs) := (aut_go (by decide)).symm.trans AU.out
          clear AU
          go_wp2
          go_roundg m.length
          case measure => exact hml.out
          case rel => exact ⟨rfl, 5, j + 1, m, by omega, rfl, by go_num, rfl, ST.out, AV.out⟩
        · have AV : Hid (autR 0 zs = false) := AU.out.symm.trans (aut_no (by decide))
          clear AU
          go_wp2
          go_ret
          exact ⟨ret_bool AV.out.symm, rfl⟩
        · have AV : Hid (autR 0 zs = false) := AU.out.symm.trans (aut_no (by decide))
          clear AU
          go_wp2
          go_ret
          exact ⟨ret_bool AV.out.symm, rfl⟩
        · have AV : Hid (autR 0 zs = false) := AU.out.symm.trans (aut_no (by decide))
          clear AU
          go_wp2
          go_ret
          exact ⟨ret_bool AV.out.symm, rfl⟩
      · rcases states s hs with rfl | rfl | rfl | rfl | rfl | rfl | rfl | rfl
        · have AV : Hid (autR 0 zs = false) := AU.out.symm.trans (aut_no (by decide))
          clear AU
          go_wp2
          go_ret
          exact ⟨ret_bool AV.out.symm, rfl⟩
        · have AV : Hid (autR 0 zs = false) := AU.out.symm.trans (aut_no (by decide))
          clear AU
          go_wp2
          go_ret
          exact ⟨ret_bool AV.out.symm, rfl⟩
        · have AV : Hid (autR 5 m = autR 0 zs) := (aut_go (by decide)).symm.trans AU.out
          clear AU
          go_wp2
          go_roundg m.length
          case measure => exact hml.out
          case rel => exact ⟨rfl, 5, j + 1, m, by omega, rfl, by go_num, rfl, ST.out, AV.out⟩
        · have AV : Hid (autR 0 zs = false) := AU.out.symm.trans (aut_no (by decide))
          clear AU
          go_wp2
          go_ret
          exact ⟨ret_bool AV.out.symm, rfl⟩
        · have AV : Hid (autR 5 m = autR 0 zs) := (aut_go (by decide)).symm.trans AU.out
          clear AU
          go_wp2
          go_roundg m.length
          case measure => exact hml.out
          case rel => exact ⟨rfl, 5, j + 1, m, by omega, rfl, by go_num, rfl, ST.out, AV.out⟩
        · have AV : Hid (autR 0 zs = false) := AU.out.symm.trans (aut_no (by decide))
          clear AU
          go_wp2
          go_ret
          exact ⟨ret_bool AV.out.symm, rfl⟩
        · have AV : Hid (autR 0 zs = false) := AU.out.symm.trans (aut_no (by decide))
          clear AU
          go_wp2
          go_ret
          exact ⟨ret_bool AV.out.symm, rfl⟩
        · have AV : Hid (autR 0 zs = false) := AU.out.symm.trans (aut_no (by decide))
          clear AU
          go_wp2
          go_ret
          exact ⟨ret_bool AV.out.symm, rfl⟩
      · rcases h0 with h0 | h0
        · have h6 : ¬ 48 ≤ x := by omega
          rcases states s hs with rfl | rfl | rfl | rfl | rfl | rfl | rfl | rfl
          · have AV : Hid (autR 0 zs = false) := AU.out.symm.trans (aut_no (stp_other (Or.inl h0) h1 h2 h3 h4 h5))
            clear AU
            go_wp2
            go_ret
            exact ⟨ret_bool AV.out.symm, rfl⟩
          · have AV : Hid (autR 0 zs = false) := AU.out.symm.trans (aut_no (stp_other (Or.inl h0) h1 h2 h3 h4 h5))
            clear AU
            go_wp2
            go_ret
            exact ⟨ret_bool AV.out.symm, rfl⟩
          · have AV : Hid (autR 0 zs = false) := AU.out.symm.trans (aut_no (stp_other (Or.inl h0) h1 h2 h3 h4 h5))
            clear AU
            go_wp2
            go_ret
            exact ⟨ret_bool AV.out.symm, rfl⟩
          · have AV : Hid (autR 0 zs = false) := AU.out.symm.trans (aut_no (stp_other (Or.inl h0) h1 h2 h3 h4 h5))
            clear AU
            go_wp2
            go_ret
            exact ⟨ret_bool AV.out.symm, rfl⟩
          · have AV : Hid (autR 0 zs = false) := AU.out.symm.trans (aut_no (stp_other (Or.inl h0) h1 h2 h3 h4 h5))
            clear AU
            go_wp2
            go_ret
            exact ⟨ret_bool AV.out.symm, rfl⟩
          · have AV : Hid (autR 0 zs = false) := AU.out.symm.trans (aut_no (stp_other (Or.inl h0) h1 h2 h3 h4 h5))
            clear AU
            go_wp2
            go_ret
            exact ⟨ret_bool AV.out.symm, rfl⟩
          · have AV : Hid (autR 0 zs = false) := AU.out.symm.trans (aut_no (stp_other (Or.inl h0) h1 h2 h3 h4 h5))
            clear AU
            go_wp2
            go_ret
            exact ⟨ret_bool AV.out.symm, rfl⟩
          · have AV : Hid (autR 0 zs = false) := AU.out.symm.trans (aut_no (stp_other (Or.inl h0) h1 h2 h3 h4 h5))
            clear AU
            go_wp2
            go_ret
            exact ⟨ret_bool AV.out.symm, rfl⟩
        · have h6 : 48 ≤ x := by omega
          have h7 : ¬ x ≤ 57 := by omega
          rcases states s hs with rfl | rfl | rfl | rfl | rfl | rfl | rfl | rfl
          · have AV : Hid (autR 0 zs = false) := AU.out.symm.trans (aut_no (stp_other (Or.inr h0) h1 h2 h3 h4 h5))
            clear AU
            go_wp2
            go_ret
            exact ⟨ret_bool AV.out.symm, rfl⟩
          · have AV : Hid (autR 0 zs = false) := AU.out.symm.trans (aut_no (stp_other (Or.inr h0) h1 h2 h3 h4 h5))
            clear AU
            go_wp2
            go_ret
            exact ⟨ret_bool AV.out.symm, rfl⟩
          · have AV : Hid (autR 0 zs = false) := AU.out.symm.trans (aut_no (stp_other (Or.inr h0) h1 h2 h3 h4 h5))
            clear AU
            go_wp2
            go_ret
            exact ⟨ret_bool AV.out.symm, rfl⟩
          · have AV : Hid (autR 0 zs = false) := AU.out.symm.trans (aut_no (stp_other (Or.inr h0) h1 h2 h3 h4 h5))
            clear AU
            go_wp2
            go_ret
            exact ⟨ret_bool AV.out.symm, rfl⟩
          · have AV : Hid (autR 0 zs = false) := AU.out.symm.trans (aut_no (stp_other (Or.inr h0) h1 h2 h3 h4 h5))
            clear AU
            go_wp2
            go_ret
            exact ⟨ret_bool AV.out.symm, rfl⟩
          · have AV : Hid (autR 0 zs = false) := AU.out.symm.trans (aut_no (stp_other (Or.inr h0) h1 h2 h3 h4 h5))
            clear AU
            go_wp2
            go_ret
            exact ⟨ret_bool AV.out.symm, rfl⟩
          · have AV : Hid (autR 0 zs = false) := AU.out.symm.trans (aut_no (stp_other (Or.inr h0) h1 h2 h3 h4 h5))
            clear AU
            go_wp2
            go_ret
            exact ⟨ret_bool AV.out.symm, rfl⟩
          · have AV : Hid (autR 0 zs = false) := AU.out.symm.trans (aut_no (stp_other (Or.inr h0) h1 h2 h3 h4 h5))
            clear AU
            go_wp2
            go_ret
            exact ⟨ret_bool AV.out.symm, rfl⟩
end Go.Proofs.Qxb6600394a.Dc
