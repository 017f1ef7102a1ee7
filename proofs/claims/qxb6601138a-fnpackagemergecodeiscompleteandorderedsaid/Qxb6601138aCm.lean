import Derived.Test.Qxb6601138aHv
namespace Go.Proofs.Qxb6601138a.Hf
open Go.RowKit Gw
set_option linter.unusedVariables false

theorem eql22 (w : World) (a : Option Addr) (n c n' c' : Nat) : (binOp .eql 22 (.slice a n c) (.slice none n' c')).run Try.prog w = .ok (.bool a.isNone) w := Lib.run_eql_slice_nil w _ _ a n c n' c' Try.underlying22
theorem eql23 (w : World) (a : Option Addr) (n c n' c' : Nat) : (binOp .eql 23 (.slice a n c) (.slice none n' c')).run Try.prog w = .ok (.bool a.isNone) w := Lib.run_eql_slice_nil w _ _ a n c n' c' Try.underlying23
theorem add_plain' (b o i : Nat) : (⟨b, o, none⟩ : Addr).add i = ⟨b, o + i, none⟩ := by
  by_cases h : i = 0
  · subst h; simp [Addr.add]
  · simp [Addr.add, h]
theorem cell_lt {w : World} {b i : Nat} {v : Value} (h : w.cell? ⟨b, i, none⟩ = some v) : b < w.heap.size := by
  rcases Nat.lt_or_ge b w.heap.size with h' | h'
  · exact h'
  · simp [World.cell?, Array.getElem?_eq_none h'] at h
/-- Where there is an element, the slice's address is a plain one. -/
theorem cell_add {w : World} {x : Addr} {n : Nat} {g : Nat → Value} (hc : ∀ i, i < n → w.cell? (x.add i) = some (g i)) (hn : 0 < n) : ∃ b o, x = ⟨b, o, none⟩ ∧ b < w.heap.size ∧ ∀ i, i < n → w.cell? ⟨b, o + i, none⟩ = some (g i) := by
  obtain ⟨b, o, s⟩ := x
  have h0 := hc 0 hn
  have hs : s = none := by simpa [Addr.add] using World.cell?_spot h0
  subst hs
  have h1 : ∀ i, i < n → w.cell? ⟨b, o + i, none⟩ = some (g i) := fun i hi => by rw [← add_plain']; exact hc i hi
  exact ⟨b, o, rfl, cell_lt (h1 0 hn), h1⟩

set_option maxHeartbeats 400000 in
theorem cloneB_any (x : Addr) (n c : Nat) (f : Nat → Int) (w : World) (hn : n ≤ 4194304) (hc : ∀ i, i < n → w.cell? (x.add i) = some (.int .u8 (f i))) :
    Calls Try.prog 10 #[.slice (some x) n c] w fun e w' => e = .returned (.slice (some ⟨w.heap.size, 0, none⟩) n n) ∧ w'.rowIs w.heap.size 5 n (fun i => .int .u8 (f i)) ∧ Below w.heap.size w w' ∧ w'.heap.size = w.heap.size + 1 := by
  have HC : Hid (∀ i, i < n → w.cell? (x.add i) = some (.int .u8 (f i))) := hc
  clear hc
  have q := eql22
  have hmk := run_make_row' 22 5 (.int .u8 0) 1 Try.underlying22 info5 rfl .i64 .i64 n (by omega) (by omega)
  go_enter Try.func10, Try.ntmps10
  go_wp2
  clear q hmk
  go_loopw [4] (fun i wr => ∃ k : Nat, k ≤ n ∧ i = .int .i64 k ∧ wr.rowIs w.heap.size 5 n (fun j => if j < k then .int .u8 (f j) else .int .u8 0) ∧ Below w.heap.size w wr ∧ wr.heap.size = w.heap.size + 1) (fun i _ => n - (intOf i).toNat)
  case atStart => exact ⟨0, by omega, rfl, (World.rowIs_made w (.int .u8 0) n 5).congr (fun i _ => by simp), (Below.refl _ _).alloc (Nat.le_refl _) _, by simp⟩
  case round =>
    obtain ⟨k, hk, rfl, hrow, hbel, hsz⟩ := hrel
    have HR : Hid (wr.rowIs w.heap.size 5 n (fun j => if j < k then .int .u8 (f j) else .int .u8 0) ∧ Below w.heap.size w wr) := ⟨hrow, hbel⟩
    have HZ : Hid (wr.heap.size = w.heap.size + 1) := hsz
    clear hrow hbel hsz
    by_cases hlt : k < n
    · obtain ⟨b, o, rfl, hbs, hcells⟩ := cell_add HC.out (by omega)
      have hcell := hcells k hlt
      clear hcells
      have hcw : wr.cell? ⟨b, o + k, none⟩ = some (.int .u8 (f k)) := (HR.out.2.cell (p := ⟨b, o + k, none⟩) hbs).trans hcell
      have hold := HR.out.1.cell hlt
      have hfr := HR.out.1.frozen k
      simp only [Nat.lt_irrefl, if_false] at hold
      clear hcell
      go_wp2
      go_roundw
      case rel =>
        refine ⟨k + 1, by omega, by go_num, ?_, HR.out.2.setCell (by simp) _, by simp [World.setCell]; exact HZ.out⟩
        refine (HR.out.1.set k _).congr ?_
        intro i hi
        by_cases e : i = k
        · subst e; simp
        · by_cases e2 : i < k
          · simp [e, e2, Nat.lt_succ_of_lt e2]
          · have : ¬ i < k + 1 := by omega
            simp [e, e2, this]
      case measure => simp [intOf]; omega
    · go_wp2
      go_ret
      exact ⟨rfl, HR.out.1.congr (fun i hi => by simp [show i < k by omega]), HR.out.2, HZ.out⟩
set_option maxHeartbeats 400000 in
theorem cloneL_any (x : Addr) (n c : Nat) (f : Nat → Int) (w : World) (hn : n ≤ 4194304) (hc : ∀ i, i < n → w.cell? (x.add i) = some (.int .u64 (f i))) :
    Calls Try.prog 11 #[.slice (some x) n c] w fun e w' => e = .returned (.slice (some ⟨w.heap.size, 0, none⟩) n n) ∧ w'.rowIs w.heap.size 28 n (fun i => .int .u64 (f i)) ∧ Below w.heap.size w w' ∧ w'.heap.size = w.heap.size + 1 := by
  have HC : Hid (∀ i, i < n → w.cell? (x.add i) = some (.int .u64 (f i))) := hc
  clear hc
  have q := eql23
  have hmk := run_make_row' 23 28 (.int .u64 0) 8 Try.underlying23 info28 rfl .i64 .i64 n (by omega) (by omega)
  go_enter Try.func11, Try.ntmps11
  go_wp2
  clear q hmk
  go_loopw [4] (fun i wr => ∃ k : Nat, k ≤ n ∧ i = .int .i64 k ∧ wr.rowIs w.heap.size 28 n (fun j => if j < k then .int .u64 (f j) else .int .u64 0) ∧ Below w.heap.size w wr ∧ wr.heap.size = w.heap.size + 1) (fun i _ => n - (intOf i).toNat)
  case atStart => exact ⟨0, by omega, rfl, (World.rowIs_made w (.int .u64 0) n 28).congr (fun i _ => by simp), (Below.refl _ _).alloc (Nat.le_refl _) _, by simp⟩
  case round =>
    obtain ⟨k, hk, rfl, hrow, hbel, hsz⟩ := hrel
    have HR : Hid (wr.rowIs w.heap.size 28 n (fun j => if j < k then .int .u64 (f j) else .int .u64 0) ∧ Below w.heap.size w wr) := ⟨hrow, hbel⟩
    have HZ : Hid (wr.heap.size = w.heap.size + 1) := hsz
    clear hrow hbel hsz
    by_cases hlt : k < n
    · obtain ⟨b, o, rfl, hbs, hcells⟩ := cell_add HC.out (by omega)
      have hcell := hcells k hlt
      clear hcells
      have hcw : wr.cell? ⟨b, o + k, none⟩ = some (.int .u64 (f k)) := (HR.out.2.cell (p := ⟨b, o + k, none⟩) hbs).trans hcell
      have hold := HR.out.1.cell hlt
      have hfr := HR.out.1.frozen k
      simp only [Nat.lt_irrefl, if_false] at hold
      clear hcell
      go_wp2
      go_roundw
      case rel =>
        refine ⟨k + 1, by omega, by go_num, ?_, HR.out.2.setCell (by simp) _, by simp [World.setCell]; exact HZ.out⟩
        refine (HR.out.1.set k _).congr ?_
        intro i hi
        by_cases e : i = k
        · subst e; simp
        · by_cases e2 : i < k
          · simp [e, e2, Nat.lt_succ_of_lt e2]
          · have : ¬ i < k + 1 := by omega
            simp [e, e2, this]
      case measure => simp [intOf]; omega
    · go_wp2
      go_ret
      exact ⟨rfl, HR.out.1.congr (fun i hi => by simp [show i < k by omega]), HR.out.2, HZ.out⟩

/-- A verdict. -/
def YN (e : Ending) : Prop := e = .returned (.bool true) ∨ e = .returned (.bool false)
theorem bytes8 (w : World) (a0 a1 : Option Addr) (n0 c0 n1 c1 : Nat) (m : Int) (h0 : n0 ≤ 9223372036854775807) (h1 : n1 ≤ 9223372036854775807) :
    Calls Try.prog 8 #[.slice a0 n0 c0, .slice a1 n1 c1, .int .i64 m] w fun e w' => YN e ∧ w' = w := by
  go_enter Try.func8, Try.ntmps8
  by_cases b1 : (n0 : Int) > 1048576
  · go_wp2
    go_ret
    first | exact ⟨Or.inl rfl, rfl⟩ | exact ⟨Or.inr rfl, rfl⟩
  · by_cases b2 : (n1 : Int) > 1048576
    · go_wp2
      go_ret
      first | exact ⟨Or.inl rfl, rfl⟩ | exact ⟨Or.inr rfl, rfl⟩
    · by_cases b3 : (n0 : Int) + (n1 : Int) > 1048576
      · go_wp2
        go_ret
        first | exact ⟨Or.inl rfl, rfl⟩ | exact ⟨Or.inr rfl, rfl⟩
      · go_wp2
        go_ret
        first | exact ⟨Or.inl rfl, rfl⟩ | exact ⟨Or.inr rfl, rfl⟩

theorem bytes15 (w : World) (a0 a1 : Option Addr) (n0 c0 n1 c1 : Nat) (m : Int) (h0 : n0 ≤ 9223372036854775807) (h1 : n1 ≤ 9223372036854775807) :
    Calls Try.prog 15 #[.slice a0 n0 c0, .slice a1 n1 c1, .int .i64 m] w fun e w' => YN e ∧ w' = w := by
  go_enter Try.func15, Try.ntmps15
  by_cases b1 : (n0 : Int) > 1048576
  · go_wp2
    go_ret
    first | exact ⟨Or.inl rfl, rfl⟩ | exact ⟨Or.inr rfl, rfl⟩
  · by_cases b2 : (n1 : Int) > 1048576
    · go_wp2
      go_ret
      first | exact ⟨Or.inl rfl, rfl⟩ | exact ⟨Or.inr rfl, rfl⟩
    · by_cases b3 : (n0 : Int) + (n1 : Int) > 1048576
      · go_wp2
        go_ret
        first | exact ⟨Or.inl rfl, rfl⟩ | exact ⟨Or.inr rfl, rfl⟩
      · go_wp2
        go_ret
        first | exact ⟨Or.inl rfl, rfl⟩ | exact ⟨Or.inr rfl, rfl⟩

theorem bytes24 (w : World) (a0 a1 : Option Addr) (n0 c0 n1 c1 : Nat) (m : Int) (h0 : n0 ≤ 9223372036854775807) (h1 : n1 ≤ 9223372036854775807) :
    Calls Try.prog 24 #[.slice a0 n0 c0, .slice a1 n1 c1, .int .i64 m] w fun e w' => YN e ∧ w' = w := by
  go_enter Try.func24, Try.ntmps24
  by_cases b1 : (n0 : Int) > 1048576
  · go_wp2
    go_ret
    first | exact ⟨Or.inl rfl, rfl⟩ | exact ⟨Or.inr rfl, rfl⟩
  · by_cases b2 : (n1 : Int) > 1048576
    · go_wp2
      go_ret
      first | exact ⟨Or.inl rfl, rfl⟩ | exact ⟨Or.inr rfl, rfl⟩
    · by_cases b3 : (n0 : Int) + (n1 : Int) > 1048576
      · go_wp2
        go_ret
        first | exact ⟨Or.inl rfl, rfl⟩ | exact ⟨Or.inr rfl, rfl⟩
      · go_wp2
        go_ret
        first | exact ⟨Or.inl rfl, rfl⟩ | exact ⟨Or.inr rfl, rfl⟩

theorem drewN_ex {w w' : World} (h : ∃ k, w' = w.drewN k) (m : Nat) : ∃ k, w'.drewN m = w.drewN k := by
  obtain ⟨k, rfl⟩ := h
  exact ⟨k + m, by simp [World.drewN, Nat.add_assoc]⟩
/-- What zzLeavesSortedInRange finds. -/
def Srt (n nl : Nat) (L : Nat → Int) : Prop := ∀ i, i < n → sN (L i) < nl ∧ (0 < i → wI (L (i - 1)) ≤ wI (L i))
/-- The verdict tells whether P holds. -/
def Tells (P : Prop) (e : Ending) : Prop := (e = .returned (.bool true) ∧ P) ∨ (e = .returned (.bool false) ∧ ¬ P)
theorem Srt.mono {n nl : Nat} {L : Nat → Int} (h : Srt n nl L) : ∀ j i, i ≤ j → j < n → wI (L i) ≤ wI (L j) := by
  intro j
  induction j with
  | zero => intro i h1 h2; obtain rfl : i = 0 := by omega
            exact Int.le_refl _
  | succ j ih =>
    intro i h1 h2
    by_cases e : i = j + 1
    · subst e; exact Int.le_refl _
    · have a := ih i (by omega) (by omega)
      have b := (h (j + 1) h2).2 (by omega)
      rw [show j + 1 - 1 = j from rfl] at b
      omega

set_option maxHeartbeats 4000000 in
theorem sorted_any (w : World) (b o n c nl : Nat) (L : Nat → Int) (hn : n ≤ 4096) (hnl : nl ≤ 65536) (rng : ∀ i, i < n → 0 ≤ L i ∧ L i ≤ 18446744073709551615) (hc : ∀ i, i < n → w.cell? ⟨b, o + i, none⟩ = some (.int .u64 (L i))) :
    Calls Try.prog 9 #[.slice (some ⟨b, o, none⟩) n c, .int .i64 (nl : Int)] w fun e w' => Tells (Srt n nl L) e ∧ ∃ k, w' = w.drewN k := by
  have H : Hid ((∀ i, i < n → 0 ≤ L i ∧ L i ≤ 18446744073709551615) ∧ ∀ i, i < n → w.cell? ⟨b, o + i, none⟩ = some (.int .u64 (L i))) := ⟨rng, hc⟩
  clear rng hc
  go_enter Try.func9, Try.ntmps9
  go_wp2
  go_loopw [5] (fun i wr => ∃ k : Nat, k ≤ n ∧ i = .int .i64 (k : Int) ∧ (∃ nq, wr = w.drewN nq) ∧ Srt k nl L) (fun i _ => n - (intOf i).toNat)
  case atStart => exact ⟨0, by omega, rfl, ⟨0, rfl⟩, fun i hi => by omega⟩
  case round =>
    obtain ⟨k, hk, rfl, hwr, hs⟩ := hrel
    have HS : Hid (Srt k nl L) := hs
    have HN : Hid (∃ nq, wr = w.drewN nq) := hwr
    have H2 : Hid (∀ i, i < n → wr.cell? ⟨b, o + i, none⟩ = some (.int .u64 (L i))) := by
      obtain ⟨nq, rfl⟩ := hwr
      exact H.out.2
    clear hs hwr
    by_cases hlt : k < n
    · have f1 := H2.out k hlt
      have l1 : 0 ≤ L k := (H.out.1 k hlt).1
      have l2 : L k ≤ 18446744073709551615 := (H.out.1 k hlt).2
      have b1 : (k : Int) < (n : Int) := by omega
      have sl := sN_lt (L k)
      by_cases hsy : sN (L k) < nl
      · have b2 : ¬ ((sN (L k) : Nat) : Int) ≥ (nl : Int) := by omega
        by_cases hk0 : k = 0
        · subst hk0
          have f2 : wr.cell? ⟨b, o, none⟩ = some (.int .u64 (L 0)) := f1
          have NX : Srt 1 nl L := by
            intro i hi
            obtain rfl : i = 0 := by omega
            exact ⟨hsy, fun h => absurd h (by omega)⟩
          have NH : Hid (Srt 1 nl L) := NX
          clear NX
          go_wp2_with (go_at_call 13; refine (sym13 _ l1 l2 _).mono ?_; rintro e w' ⟨rfl, rfl⟩)
          go_quiet (fail)
          go_wp2
          go_roundw
          case rel => exact ⟨1, by omega, by go_num, drewN_ex HN.out _, NH.out⟩
          case measure => simp [intOf]; omega
        · have f2 := H2.out (k - 1) (by omega)
          have m1 : 0 ≤ L (k - 1) := (H.out.1 (k - 1) (by omega)).1
          have m2 : L (k - 1) ≤ 18446744073709551615 := (H.out.1 (k - 1) (by omega)).2
          have d1 : decide (0 < k) = true := decide_eq_true (by omega)
          have c4 : IntKind.i64.wrap ((k : Int) - 1) = ((k - 1 : Nat) : Int) := by
            rw [IntKind.wrap_i64]; omega
          have c3 : ((k - 1 : Nat) : Int) < (n : Int) := by omega
          have c1 : ((k : Int) - 1).toNat = k - 1 := by omega
          by_cases hw : wI (L (k - 1)) ≤ wI (L k)
          · have NX : Srt (k + 1) nl L := by
              intro i hi
              by_cases e : i = k
              · rw [e]; exact ⟨hsy, fun _ => hw⟩
              · exact HS.out i (by omega)
            have NH : Hid (Srt (k + 1) nl L) := NX
            clear NX
            have d2 : decide (wI (L k) < wI (L (k - 1))) = false := decide_eq_false (by omega)
            go_wp2_with (go_at_call 13; refine (sym13 _ l1 l2 _).mono ?_; rintro e w' ⟨rfl, rfl⟩)
            go_quiet ((go_at_call 22; first | exact Calls.quiet_of_same (weight22 _ l1 l2 _) | exact Calls.quiet_of_same (weight22 _ m1 m2 _)))
            go_wp2
            go_roundw
            case rel => exact ⟨k + 1, by omega, by go_num, drewN_ex HN.out _, NH.out⟩
            case measure => simp [intOf]; omega
          · have NX : ¬ Srt n nl L := fun h => hw ((h k hlt).2 (by omega))
            have NH : Hid (¬ Srt n nl L) := NX
            clear NX
            have d2 : decide (wI (L k) < wI (L (k - 1))) = true := decide_eq_true (by omega)
            go_wp2_with (go_at_call 13; refine (sym13 _ l1 l2 _).mono ?_; rintro e w' ⟨rfl, rfl⟩)
            go_quiet ((go_at_call 22; first | exact Calls.quiet_of_same (weight22 _ l1 l2 _) | exact Calls.quiet_of_same (weight22 _ m1 m2 _)))
            go_wp2
            go_ret
            exact ⟨Or.inr ⟨rfl, NH.out⟩, drewN_ex HN.out _⟩
      · have b2 : ((sN (L k) : Nat) : Int) ≥ (nl : Int) := by omega
        go_wp2_with (go_at_call 13; refine (sym13 _ l1 l2 _).mono ?_; rintro e w' ⟨rfl, rfl⟩)
        go_ret
        exact ⟨Or.inr ⟨rfl, fun h => hsy (h k hlt).1⟩, HN.out⟩
    · have ekn : Hid (Srt n nl L) := by
        have e : k = n := by omega
        rw [← e]; exact HS.out
      go_wp2
      go_ret
      exact ⟨Or.inl ⟨rfl, ekn.out⟩, HN.out⟩
end Go.Proofs.Qxb6601138a.Hf
