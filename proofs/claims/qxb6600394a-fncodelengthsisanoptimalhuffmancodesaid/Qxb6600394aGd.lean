/-
  PLAIN: what the lengths are good for. Nothing of Go here.
-/
import Derived.Test.Qxb6600394aLf
namespace Go.Proofs.Qxb6600394a.Hf

structure Good (n : Nat) (c : Nat → Int) (len : Nat → Int) : Prop where
  rng : ∀ s, s < n → 1 ≤ len s ∧ len s ≤ 12
  krf : sm (fun s => ((2 ^ (12 - (len s).toNat) : Nat) : Int)) n = 4096
  ord1 : ∀ s u, s < n → u < n → c u < c s → len s ≤ len u
  ord2 : ∀ s u, s < u → u < n → c s = c u → len u ≤ len s
  opt : (n ≤ 13 ∨ ∃ least, 1 ≤ least ∧ (∀ s, s < n → least ≤ c s) ∧ sm c n < 610 * least) → ∀ C, Hs (n - 1) (leaves n c) C → sm (fun s => c s * len s) n = C

theorem list_sum_nat (f : Nat → Nat) (k : Nat) : ((((List.range' 0 k).map f).sum : Nat) : Int) = sm (fun i => (f i : Int)) k := by
  induction k with
  | zero => rfl
  | succ k ih => rw [List.range'_concat, List.map_append, List.sum_append, sm_succ, ← ih]; simp
theorem list_sum_int (f : Nat → Int) (k : Nat) : ((List.range' 0 k).map f).sum = sm f k := by
  induction k with
  | zero => rfl
  | succ k ih => rw [List.range'_concat, List.map_append, List.sum_append, sm_succ, ← ih]; simp

/-- No complete code costs less: by the words' numbers. -/
theorem low {n : Nat} {c len : Nat → Int} (hn : 1 ≤ n) (rng : ∀ s, s < n → 1 ≤ len s ∧ len s ≤ 12) (krf : sm (fun s => ((2 ^ (12 - (len s).toNat) : Nat) : Int)) n = 4096) (pos : ∀ s, s < n → 0 ≤ c s) {C : Int} (h : Hs (n - 1) (leaves n c) C) : C ≤ sm (fun s => c s * len s) n := by
  have hl : (List.range' 0 n).length = n := by simp
  have mem : ∀ x ∈ (List.range' 0 n).map (fun s => (c s, (len s).toNat)), ∃ s, s < n ∧ x = (c s, (len s).toNat) := by
    intro x hx
    obtain ⟨s, hs, e⟩ := List.mem_map.1 hx
    rw [List.mem_range'_1] at hs
    exact ⟨s, by omega, e.symm⟩
  have o := optimal (n - 1) ((List.range' 0 n).map (fun s => (c s, (len s).toNat))) 12 C (by simp; omega) (by
    intro x hx
    obtain ⟨s, hs, rfl⟩ := mem x hx
    have := rng s hs
    show (len s).toNat ≤ 12
    omega) (by
    have e := list_sum_nat (fun s => 2 ^ (12 - (len s).toNat)) n
    rw [krf] at e
    unfold kq
    rw [List.map_map]
    have e2 : ((fun x : Int × Nat => 2 ^ (12 - x.2)) ∘ fun s => (c s, (len s).toNat)) = fun s => 2 ^ (12 - (len s).toNat) := rfl
    rw [e2]
    have : (2 : Nat) ^ 12 = 4096 := by decide
    omega) (by
    intro x hx
    obtain ⟨s, hs, rfl⟩ := mem x hx
    exact pos s hs) (by
    rw [List.map_map]
    exact h)
  have e : cst ((List.range' 0 n).map (fun s => (c s, (len s).toNat))) = sm (fun s => c s * len s) n := by
    unfold cst
    rw [List.map_map]
    have e2 : ((fun x : Int × Nat => x.1 * (x.2 : Int)) ∘ fun s => (c s, (len s).toNat)) = fun s => c s * (((len s).toNat : Nat) : Int) := rfl
    rw [e2, list_sum_int]
    refine sm_congr (fun s hs => ?_)
    have := rng s hs
    rw [show (((len s).toNat : Nat) : Int) = len s by omega]
  rw [e] at o
  exact o

theorem Good.of {n : Nat} {c : Nat → Int} {o : Nat → Nat} {iw : Nat → Int} {lp ip d A : Nat → Nat} {p : Nat → Int} {M : Nat} {len : Nat → Int} (hn : 2 ≤ n)
    (ho : Ord c o n) (hq : TQ n (fun i => c (o i)) iw lp ip (n - 1) n (n - 2)) (hs : Hs (n - 1) (leaves n (fun i => c (o i))) (sm iw (n - 1))) (hd : Dep n ip d)
    (hM : M = min (n - 1) 12) (hli : LI p n M) (hunl : (∀ x, 12 < x → x < n → hist (dl lp d) n x = 0) → ∀ x, x < n → p x = hist (dl lp d) n x)
    (ha : AI p A n (M + 1) 0) (hlen : ∀ k, k < n → len (o (n - 1 - k)) = (A k : Int)) : Good n c len := by
  have hA : ∀ k, k < n → 1 ≤ A k ∧ A k ≤ M := by
    intro k hk
    refine ⟨(ha.rng k hk).1, ?_⟩
    have h1 := (ha.rng k hk).2
    by_cases e : A k = M + 1
    · exfalso
      have h2 := ha.at'
      have h3 : 0 < hist A n (M + 1) := by
        unfold hist
        have := sm_term (f := fun i => if A i = M + 1 then 1 else 0) (k := n) (j := k) (fun i _ => by split <;> omega) hk
        simp [e] at this
        omega
      omega
    · omega
  have hM12 : M ≤ 12 := by omega
  have at' : ∀ s, s < n → ∃ k, k < n ∧ s = o (n - 1 - k) ∧ len s = (A k : Int) := by
    intro s hs
    obtain ⟨i, hi, e⟩ := ho.surj hs
    refine ⟨n - 1 - i, by omega, ?_, ?_⟩
    · rw [show n - 1 - (n - 1 - i) = i by omega, e]
    · have := hlen (n - 1 - i) (by omega)
      rw [show n - 1 - (n - 1 - i) = i by omega, e] at this
      exact this
  -- at place i
  have lp' : ∀ i, i < n → len (o i) = (A (n - 1 - i) : Int) := by
    intro i hi
    have := hlen (n - 1 - i) (by omega)
    rwa [show n - 1 - (n - 1 - i) = i by omega] at this
  have kA : sm (fun k => ((2 ^ (M - A k) : Nat) : Int)) n = ((2 ^ M : Nat) : Int) := by
    rw [← kr_hist (fun i hi => (hA i hi).2), kr_congr (p' := p) (fun x hx => ha.low x (by omega)), hli.kk]
  have rng : ∀ s, s < n → 1 ≤ len s ∧ len s ≤ 12 := by
    intro s hs
    obtain ⟨k, hk, _, e⟩ := at' s hs
    have := hA k hk
    omega
  refine ⟨rng, ?_, ?_, ?_, ?_⟩
  · have e1 := ho.sums (fun s => ((2 ^ (12 - (len s).toNat) : Nat) : Int))
    rw [← e1, sm_congr (g := fun i => (fun k => ((2 ^ (12 - A k) : Nat) : Int)) (n - 1 - i)) (fun i hi => by
      rw [lp' i hi]; simp), sm_rev (fun k => ((2 ^ (12 - A k) : Nat) : Int)) n]
    rw [sm_congr (g := fun k => ((2 ^ (12 - M) : Nat) : Int) * ((2 ^ (M - A k) : Nat) : Int)) (fun k hk => by
      rw [← Int.natCast_mul, ← Nat.pow_add, show 12 - M + (M - A k) = 12 - A k by have := hA k hk; omega]), sm_mul, kA, ← Int.natCast_mul, ← Nat.pow_add, show 12 - M + M = 12 by omega]
    decide
  · intro s u hs hu hc
    obtain ⟨i, hi, rfl⟩ := ho.surj hs
    obtain ⟨j, hj, rfl⟩ := ho.surj hu
    have hij : j < i := by
      rcases Nat.lt_trichotomy i j with h | h | h
      · have := ho.srt i j h hj; omega
      · subst h; omega
      · exact h
    rw [lp' i hi, lp' j hj]
    have := ha.mono (n - 1 - i) (n - 1 - j) (by omega) (by omega)
    omega
  · intro s u hsu hu hc
    obtain ⟨i, hi, rfl⟩ := ho.surj (show s < n by omega)
    obtain ⟨j, hj, rfl⟩ := ho.surj hu
    have hij : i < j := by
      rcases Nat.lt_trichotomy i j with h | h | h
      · exact h
      · subst h; omega
      · have := ho.srt j i h hi; omega
    rw [lp' i hi, lp' j hj]
    have := ha.mono (n - 1 - j) (n - 1 - i) (by omega) (by omega)
    omega
  · intro hun C hC
    have eC : sm iw (n - 1) = C := Hs.unique hs hC ho.perm
    have shal : ∀ i, i < n → dl lp d i ≤ 12 := by
      intro i hi
      rcases hun with hun | ⟨least, h1, h2, h3⟩
      · have := (dl_le hq hd hi).2; omega
      · exact shallow hn hq hd h1 (fun j hj => h2 _ (ho.rng j hj)) (by rw [ho.sums c]; exact h3) hi
    have hp := hunl (fun x h1 h2 => by
      unfold hist
      rw [sm_congr (g := fun _ => 0) (fun i hi => by rw [if_neg]; have := shal i hi; omega), sm_const]; simp)
    -- the same counts: the same depths
    have hh : ∀ v, hist (fun i => A (n - 1 - i)) n v = hist (dl lp d) n v := by
      intro v
      have e1 : hist (fun i => A (n - 1 - i)) n v = hist A n v := sm_rev (fun k => if A k = v then 1 else 0) n
      rw [e1]
      by_cases hv : v ≤ M
      · rw [ha.low v (by omega), hp v (by omega)]
      · have z1 : hist A n v = 0 := by
          unfold hist
          rw [sm_congr (g := fun _ => 0) (fun i hi => by rw [if_neg]; have := hA i hi; omega), sm_const]; simp
        have z2 : hist (dl lp d) n v = 0 := by
          unfold hist
          rw [sm_congr (g := fun _ => 0) (fun i hi => by rw [if_neg]; have := shal i hi; have := (dl_le hq hd hi).2; omega), sm_const]; simp
        rw [z1, z2]
    have same := same_hist (x := fun i => A (n - 1 - i)) (y := dl lp d) (n := n) (fun a b h1 h2 => ha.mono _ _ (by omega) (by omega)) (fun a b h1 h2 => dl_mono hq hd h1 h2) hh
    rw [← eC, ← cost hn hq hd, ← ho.sums (fun s => c s * len s)]
    refine sm_congr (fun i hi => ?_)
    have e9 : A (n - 1 - i) = dl lp d i := same i hi
    rw [lp' i hi, e9]
end Go.Proofs.Qxb6600394a.Hf
