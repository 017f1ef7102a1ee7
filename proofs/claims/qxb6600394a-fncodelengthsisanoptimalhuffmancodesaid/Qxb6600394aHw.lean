import Derived.Test.Qxb6600394aHc
import Derived.Test.Qxb6600394aHp
import Derived.Test.Qxb6600394aCl
namespace Go.Proofs.Qxb6600394a.Hf
open Go.RowKit Cl
set_option linter.unusedVariables false

theorem codeLengths_any (w : World) (Bc Bl n : Nat) (c : Nat → Int) (hn : 2 ≤ n) (hn2 : n ≤ 255) (hpos0 : Hid (∀ i, i < n → 1 ≤ c i)) (hsum0 : Hid (sm c n ≤ 1073741824))
    (hC : w.rowIs Bc 3 n (fun i => .int .i64 (c i))) (hL : w.rowIs Bl 5 n (fun _ => .int .u8 0)) (h1 : Bc < Bl) :
    Calls Try.prog 35 #[.slice (some ⟨Bc, 0, none⟩) n n, .slice (some ⟨Bl, 0, none⟩) n n] w fun e w' => e = .returned (.tuple #[]) ∧ ∃ len : Nat → Int, w'.rowIs Bl 5 n (fun i => .int .u8 (len i)) ∧ Good n c len ∧ Below Bl w w' := by
  have hlt := hL.lt
  have H : Hid (w.rowIs Bc 3 n (fun i => .int .i64 (c i)) ∧ w.rowIs Bl 5 n (fun _ => .int .u8 0)) := ⟨hC, hL⟩
  clear hC hL
  have hz := zero51
  go_enter Try.func35, Try.ntmps35
  go_wp2_with fail
  clear hz
  refine (cl_any (w.alloc (.cells Z51 51)) w.heap.size Bc Bl n c hn hn2 hpos0 hsum0 (HB.zero w) (H.out.1.alloc _) (H.out.2.alloc _) h1 hlt).mono ?_
  rintro e w1 ⟨rfl, len, g1, g2, g3⟩
  have G : Hid (w1.rowIs Bl 5 n (fun i => .int .u8 (len i)) ∧ Good n c len ∧ Below Bl w w1) := ⟨g1, g2, ((Below.refl Bl w).alloc (by omega) _).trans g3⟩
  clear g1 g2 g3
  go_wp2
  go_end0
  exact ⟨rfl, len, G.out⟩

theorem lengthsOf_any (w : World) (Bc n : Nat) (c : Nat → Int) (hn : 2 ≤ n) (hn2 : n ≤ 255) (hpos0 : Hid (∀ i, i < n → 1 ≤ c i)) (hsum0 : Hid (sm c n ≤ 1073741824))
    (hC : w.rowIs Bc 3 n (fun i => .int .i64 (c i))) :
    Calls Try.prog 15 #[.slice (some ⟨Bc, 0, none⟩) n n] w fun e w' => e = .returned (.slice (some ⟨w.heap.size, 0, none⟩) n n) ∧ ∃ len : Nat → Int, w'.rowIs w.heap.size 5 n (fun i => .int .u8 (len i)) ∧ Good n c len ∧ Below w.heap.size w w' := by
  have hlt := hC.lt
  have H : Hid (w.rowIs Bc 3 n (fun i => .int .i64 (c i))) := hC
  clear hC
  have hmk := run_make_row' 25 5 (.int .u8 0) 1 Try.underlying25 info5 rfl .i64 .i64 n (by omega) (by omega)
  go_enter Try.func15, Try.ntmps15
  go_wp2_with fail
  clear hmk
  refine (codeLengths_any (w.alloc (.cells (madeCells #[.int .u8 0] n) 5)) Bc w.heap.size n c hn hn2 hpos0 hsum0 (H.out.alloc _) (World.rowIs_made w (.int .u8 0) n 5) hlt).mono ?_
  rintro e w1 ⟨rfl, len, g1, g2, g3⟩
  have G : Hid (w1.rowIs w.heap.size 5 n (fun i => .int .u8 (len i)) ∧ Good n c len ∧ Below w.heap.size w w1) := ⟨g1, g2, ((Below.refl w.heap.size w).alloc (Nat.le_refl _) _).trans g3⟩
  clear g1 g2 g3
  go_wp2
  go_ret
  exact ⟨rfl, len, G.out⟩

/-- What zzCountsFit asks. -/
def Fit (n : Nat) (c : Nat → Int) : Prop := 2 ≤ n ∧ n ≤ 255 ∧ (∀ i, i < n → 1 ≤ c i) ∧ sm c n ≤ 1073741824
/-- Some bool, which tells at least that. -/
def Tells (p : Prop) (e : Ending) : Prop := ∃ b : Bool, e = .returned (.bool b) ∧ (b = true → p)

theorem countsFit_out (w : World) (a : Option Addr) (n k : Nat) (hk : n ≤ 1048576) (h : ¬ (2 ≤ n ∧ n ≤ 255)) :
    Calls Try.prog 13 #[.slice a n k] w fun e w' => e = .returned (.bool false) ∧ w' = w := by
  by_cases h2 : (n : Int) < 2
  · go_enter Try.func13, Try.ntmps13
    go_wp2
    go_ret
    exact ⟨rfl, rfl⟩
  · have h3 : 255 < (n : Int) := by omega
    go_enter Try.func13, Try.ntmps13
    go_wp2
    go_ret
    exact ⟨rfl, rfl⟩

set_option maxHeartbeats 400000 in
theorem countsFit_in (w : World) (Bc n : Nat) (c : Nat → Int) (h2 : 2 ≤ n) (h3 : n ≤ 255) (hC : w.rowIs Bc 3 n (fun i => .int .i64 (c i))) :
    Calls Try.prog 13 #[.slice (some ⟨Bc, 0, none⟩) n n] w fun e w' => Tells (Fit n c) e ∧ w' = w := by
  have H : Hid (w.rowIs Bc 3 n (fun i => .int .i64 (c i))) := hC
  clear hC
  have b1 : ¬ (n : Int) < 2 := by omega
  have b2 : ¬ 255 < (n : Int) := by omega
  go_enter Try.func13, Try.ntmps13
  go_wp2
  go_loop [4, 5] (fun t i => ∃ k : Nat, k ≤ n ∧ i = .int .i64 (k : Int) ∧ t = .int .i64 (sm c k) ∧ (∀ j, j < k → 1 ≤ c j) ∧ sm c k ≤ 1073741824) (fun _ i => n - (intOf i).toNat)
  case atStart => exact ⟨0, by omega, rfl, rfl, fun j hj => by omega, by simp [sm]⟩
  case round =>
    obtain ⟨k, hk, rfl, rfl, hp, hs⟩ := hrel
    have s0 : 0 ≤ sm c k := sm_nonneg (fun i hi => by have := hp i hi; omega)
    have HP : Hid (∀ j, j < k → 1 ≤ c j) := hp
    clear hp
    by_cases hlt : k < n
    · have f1 := H.out.cell hlt
      by_cases h4 : c k < 1
      · go_wp2
        go_ret
        exact ⟨⟨false, rfl, fun h => by simp at h⟩, rfl⟩
      · by_cases h5 : 1073741824 < c k
        · go_wp2
          go_ret
          exact ⟨⟨false, rfl, fun h => by simp at h⟩, rfl⟩
        · by_cases h6 : 1073741824 < sm c k + c k
          · go_wp2
            go_ret
            exact ⟨⟨false, rfl, fun h => by simp at h⟩, rfl⟩
          · go_wp2
            go_round
            case rel =>
              refine ⟨k + 1, by omega, by go_num, rfl, fun j hj => ?_, by rw [sm_succ]; omega⟩
              by_cases e : j = k
              · subst e; omega
              · exact HP.out j (by omega)
            case measure => simp [intOf]; omega
    · have ekn : Hid (k = n) := by show k = n; omega
      go_wp2
      go_ret
      exact ⟨⟨true, rfl, fun _ => ⟨h2, h3, by rw [← ekn.out]; exact HP.out, by rw [← ekn.out]; exact hs⟩⟩, rfl⟩

set_option maxHeartbeats 400000 in
theorem totalLeast_any (w : World) (Bc n : Nat) (c : Nat → Int) (h : Fit n c) (hC : w.rowIs Bc 3 n (fun i => .int .i64 (c i))) :
    Calls Try.prog 21 #[.slice (some ⟨Bc, 0, none⟩) n n] w fun e w' => (∃ t l : Int, e = .returned (.tuple #[.int .i64 t, .int .i64 l]) ∧ t = sm c n ∧ 1 ≤ l ∧ l ≤ 1073741824 ∧ ∀ i, i < n → l ≤ c i) ∧ w' = w := by
  have H : Hid (w.rowIs Bc 3 n (fun i => .int .i64 (c i)) ∧ Fit n c) := ⟨hC, h⟩
  have hn2 := h.2.1
  have hn1 := h.1
  clear hC h
  go_enter Try.func21, Try.ntmps21
  go_wp2
  go_loop [4, 5, 6] (fun t l i => ∃ (k : Nat) (m : Int), k ≤ n ∧ i = .int .i64 (k : Int) ∧ t = .int .i64 (sm c k) ∧ l = .int .i64 m ∧ (k = 0 ∨ (1 ≤ m ∧ m ≤ 1073741824)) ∧ ∀ j, j < k → m ≤ c j) (fun _ _ i => n - (intOf i).toNat)
  case atStart => exact ⟨0, 0, by omega, rfl, rfl, rfl, Or.inl rfl, fun j hj => by omega⟩
  case round =>
    obtain ⟨k, m, hk, rfl, rfl, rfl, hm, hp⟩ := hrel
    have HP : Hid (∀ j, j < k → m ≤ c j) := hp
    have HM : Hid (k = 0 ∨ (1 ≤ m ∧ m ≤ 1073741824)) := hm
    clear hp hm
    by_cases hlt : k < n
    · have f1 := H.out.1.cell hlt
      have s0 : 0 ≤ sm c k := sm_nonneg (fun i hi => by have := H.out.2.2.2.1 i (by omega); omega)
      have s1 : sm c k ≤ 1073741824 := Int.le_trans (sm_mono (by omega) (fun i hi => by have := H.out.2.2.2.1 i hi; omega)) H.out.2.2.2.2
      have c0 : 1 ≤ c k := H.out.2.2.2.1 k hlt
      have c1 : c k ≤ 1073741824 := Int.le_trans (sm_term (fun i hi => by have := H.out.2.2.2.1 i hi; omega) hlt) H.out.2.2.2.2
      by_cases hk0 : k = 0
      · subst hk0
        go_wp2
        go_round
        case rel =>
          refine ⟨1, c 0, by omega, by go_num, rfl, rfl, Or.inr ⟨c0, c1⟩, fun j hj => ?_⟩
          have : j = 0 := by omega
          subst this; exact Int.le_refl _
        case measure => simp [intOf]; omega
      · have b0 : ((k : Int) == 0) = false := by rw [beq_eq_false_iff_ne]; omega
        by_cases hcm : c k < m
        · go_wp2
          go_round
          case rel =>
            refine ⟨k + 1, c k, by omega, by go_num, rfl, rfl, Or.inr ⟨c0, c1⟩, fun j hj => ?_⟩
            by_cases e : j = k
            · subst e; exact Int.le_refl _
            · have := HP.out j (by omega); omega
          case measure => simp [intOf]; omega
        · go_wp2
          go_round
          case rel =>
            refine ⟨k + 1, m, by omega, by go_num, rfl, rfl, Or.inr (by have := HM.out; omega), fun j hj => ?_⟩
            by_cases e : j = k
            · subst e; omega
            · exact HP.out j (by omega)
          case measure => simp [intOf]; omega
    · have ekn : Hid (k = n) := by show k = n; omega
      go_wp2
      go_ret2
      refine ⟨⟨sm c k, m, rfl, by rw [ekn.out], ?_, ?_, by rw [← ekn.out]; exact HP.out⟩, rfl⟩
      · have := HM.out; omega
      · have := HM.out; omega

/-- What zzUnlimited tells. -/
def Unl (n : Nat) (c : Nat → Int) : Prop := n ≤ 13 ∨ ∃ least, 1 ≤ least ∧ (∀ s, s < n → least ≤ c s) ∧ sm c n < 610 * least
theorem unlimited_any (w : World) (Bc n : Nat) (c : Nat → Int) (h : Fit n c) (hC : w.rowIs Bc 3 n (fun i => .int .i64 (c i))) :
    Calls Try.prog 14 #[.slice (some ⟨Bc, 0, none⟩) n n] w fun e w' => Tells (Unl n c) e ∧ w' = w := by
  have H : Hid (w.rowIs Bc 3 n (fun i => .int .i64 (c i)) ∧ Fit n c) := ⟨hC, h⟩
  have hn2 := h.2.1
  have hn1 := h.1
  clear hC h
  by_cases h13 : (n : Int) ≤ 13
  · go_enter Try.func14, Try.ntmps14
    go_wp2
    go_ret
    exact ⟨⟨true, rfl, fun _ => Or.inl (by omega)⟩, rfl⟩
  · go_enter Try.func14, Try.ntmps14
    go_wp2_with fail
    refine (totalLeast_any _ Bc n c H.out.2 H.out.1).mono ?_
    rintro e w1 ⟨⟨t, l, rfl, ht, h1, h2, h3⟩, rfl⟩
    have T : Hid (t = sm c n ∧ ∀ i, i < n → l ≤ c i) := ⟨ht, h3⟩
    clear ht h3
    go_wp2
    go_ret
    refine ⟨⟨_, rfl, fun hb => Or.inr ⟨l, h1, T.out.2, ?_⟩⟩, rfl⟩
    have hb' : t < 610 * l := of_decide_eq_true hb
    rw [← T.out.1]; exact hb'
end Go.Proofs.Qxb6600394a.Hf
