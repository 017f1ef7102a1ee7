import Derived.Test.Qxb6601138aCm
import Derived.Test.Qxb6601138aPp
namespace Go.Proofs.Qxb6601138a.Hf
open Go.RowKit Gw
set_option linter.unusedVariables false

/-- What the search holds after k items. -/
def BI (al : Nat → Bool) (a k : Nat) (best : Int) : Prop := (best = -1 ∧ k ≤ a) ∨ (∃ b : Nat, b < k ∧ best = (b : Int) ∧ (b = a ∨ (k ≤ a ∧ al b = true)))

set_option maxHeartbeats 4000000 in
theorem light_any (w : World) (Bw Ba N m a : Nat) (wt : Nat → Int) (al : Nat → Bool) (hm : m ≤ N) (hN : N ≤ 8191) (wb : ∀ k, k < m → 0 ≤ wt k ∧ wt k ≤ 1152921504606846976) (h : Lst m wt al a) (hw : w.rowIs Bw 28 N (fun i => .int .u64 (wt i))) (ha : w.rowIs Ba 4 N (fun i => .bool (al i))) :
    Calls Try.prog 27 #[.slice (some ⟨Bw, 0, none⟩) N N, .slice (some ⟨Ba, 0, none⟩) N N, .int .i64 (m : Int)] w fun e w' => e = .returned (.int .i64 (a : Int)) ∧ ∃ k, w' = w.drewN k := by
  have H : Hid ((∀ k, k < m → 0 ≤ wt k ∧ wt k ≤ 1152921504606846976) ∧ Lst m wt al a ∧ w.rowIs Bw 28 N (fun i => .int .u64 (wt i)) ∧ w.rowIs Ba 4 N (fun i => .bool (al i))) := ⟨wb, h, hw, ha⟩
  clear wb h hw ha
  go_enter Try.func27, Try.ntmps27
  go_wp2
  go_loopw [7, 8] (fun rb ri wr => ∃ (k : Nat) (best : Int), k ≤ m ∧ ri = .int .i64 (k : Int) ∧ rb = .int .i64 best ∧ (∃ nq, wr = w.drewN nq) ∧ BI al a k best) (fun _ ri _ => m - (intOf ri).toNat)
  case atStart => exact ⟨0, -1, by omega, rfl, rfl, ⟨0, rfl⟩, Or.inl ⟨rfl, Nat.zero_le _⟩⟩
  case round =>
    obtain ⟨k, best, hk, rfl, rfl, hwr, hs⟩ := hrel
    have HN : Hid (∃ nq, wr = w.drewN nq) := hwr
    have H2 : Hid ((∀ i, i < N → wr.cell? ⟨Bw, i, none⟩ = some (.int .u64 (wt i))) ∧ (∀ i, i < N → wr.cell? ⟨Ba, i, none⟩ = some (.bool (al i)))) := by
      obtain ⟨nq, rfl⟩ := hwr
      exact ⟨fun i hi => H.out.2.2.1.cell hi, fun i hi => H.out.2.2.2.cell hi⟩
    clear hwr
    by_cases hlt : k < m
    · have f1 := H2.out.2 k (by omega)
      have f2 := H2.out.1 k (by omega)
      have b1 : (k : Int) < (m : Int) := by omega
      have b2 : (k : Int) < (N : Int) := by omega
      have w1 := (H.out.1 k hlt).1
      have w2 := (H.out.1 k hlt).2
      by_cases hal : al k = true
      · rw [hal] at f1
        have HA : Hid (al k = true) := hal
        clear hal
        rcases hs with ⟨rfl, hka⟩ | ⟨b, hbk, rfl, hba⟩
        · go_wp2
          go_quiet (fail)
          go_wp2
          go_roundw
          case rel =>
            refine ⟨k + 1, (k : Int), by omega, by go_num, rfl, drewN_ex HN.out _, Or.inr ⟨k, by omega, rfl, ?_⟩⟩
            by_cases e : k = a
            · exact Or.inl e
            · exact Or.inr ⟨by omega, HA.out⟩
          case measure => simp [intOf]; omega
        · have f3 := H2.out.1 b (by omega)
          have HB : Hid (b = a ∨ (k ≤ a ∧ al b = true)) := hba
          clear hba
          have w3 := (H.out.1 b (by omega)).1
          have w4 := (H.out.1 b (by omega)).2
          have b3 : (b : Int) < (N : Int) := by omega
          have d1 : decide ((b : Int) < 0) = false := decide_eq_false (by omega)
          by_cases hw : wt k < wt b
          · have HW2 : Hid (wt k < wt b) := hw
            have d2 : decide (wt k < wt b) = true := decide_eq_true hw
            clear hw
            go_wp2
            go_quiet (fail)
            go_wp2
            go_roundw
            case rel =>
              refine ⟨k + 1, (k : Int), by omega, by go_num, rfl, drewN_ex HN.out _, Or.inr ⟨k, by omega, rfl, ?_⟩⟩
              by_cases e : k = a
              · exact Or.inl e
              · rcases HB.out with h | h
                · subst h
                  have := H.out.2.1.le k hlt HA.out
                  have := HW2.out
                  omega
                · exact Or.inr ⟨by omega, HA.out⟩
            case measure => simp [intOf]; omega
          · have HW2 : Hid (¬ wt k < wt b) := hw
            have d2 : decide (wt k < wt b) = false := decide_eq_false hw
            clear hw
            go_wp2
            go_quiet (fail)
            go_wp2
            go_roundw
            case rel =>
              refine ⟨k + 1, (b : Int), by omega, by go_num, rfl, drewN_ex HN.out _, Or.inr ⟨b, by omega, rfl, ?_⟩⟩
              rcases HB.out with h | h
              · exact Or.inl h
              · by_cases e : k = a
                · have := H.out.2.1.ls b (by omega) h.2
                  have h3 := HW2.out
                  rw [e] at h3
                  omega
                · exact Or.inr ⟨by omega, h.2⟩
            case measure => simp [intOf]; omega
      · have hal2 : al k = false := by simpa using hal
        have HA : Hid (al k = false) := hal2
        have HBI : Hid (BI al a k best) := hs
        clear hs
        rw [hal2] at f1
        clear hal hal2
        go_wp2
        go_quiet (fail)
        go_wp2
        go_roundw
        case rel =>
          refine ⟨k + 1, best, by omega, by go_num, rfl, drewN_ex HN.out _, ?_⟩
          have hka : k ≠ a := fun e => by
            have h1 := H.out.2.1.live
            rw [← e, HA.out] at h1
            cases h1
          rcases HBI.out with ⟨h1, h2⟩ | ⟨b, h1, h2, h3⟩
          · exact Or.inl ⟨h1, by omega⟩
          · refine Or.inr ⟨b, by omega, h2, ?_⟩
            rcases h3 with h3 | h3
            · exact Or.inl h3
            · exact Or.inr ⟨by omega, h3.2⟩
        case measure => simp [intOf]; omega
    · have fin : best = (a : Int) := by
        have := H.out.2.1.lt
        rcases hs with ⟨h1, h2⟩ | ⟨b, h1, h2, h3⟩
        · omega
        · rcases h3 with h3 | h3
          · rw [h2, h3]
          · omega
      subst fin
      have b1 : ¬ (k : Int) < (m : Int) := by omega
      go_wp2
      go_ret
      exact ⟨rfl, HN.out⟩
end Go.Proofs.Qxb6601138a.Hf
