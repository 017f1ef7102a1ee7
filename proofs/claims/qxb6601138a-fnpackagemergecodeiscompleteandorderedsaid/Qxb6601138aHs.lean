/-
  PLAIN: HUFFMAN's MERGING AS A RELATION ON LISTS OF WEIGHTS; its total is one; no complete code costs less. Nothing of Go here.
-/
namespace Go.Proofs.Qxb6601138a.Hf

/-- k merges, each of two least weights, starting from l, add up to c. -/
def Hs : Nat → List Int → Int → Prop
  | 0, _, c => c = 0
  | k + 1, l, c => ∃ a b r c', l.Perm (a :: b :: r) ∧ (∀ x ∈ r, a ≤ x ∧ b ≤ x) ∧ c = a + b + c' ∧ Hs k ((a + b) :: r) c'

theorem Hs.perm {k : Nat} {l l' : List Int} {c : Int} (h : Hs k l c) (p : l.Perm l') : Hs k l' c := by
  cases k with
  | zero => exact h
  | succ k =>
    obtain ⟨a, b, r, c', h1, h2, h3, h4⟩ := h
    exact ⟨a, b, r, c', p.symm.trans h1, h2, h3, h4⟩

theorem two_least {a b a' b' : Int} {r r' : List Int} (p : (a :: b :: r).Perm (a' :: b' :: r')) (hab : a ≤ b) (hab' : a' ≤ b') (h : ∀ x ∈ r, a ≤ x ∧ b ≤ x) (h' : ∀ x ∈ r', a' ≤ x ∧ b' ≤ x) :
    a = a' ∧ b = b' ∧ r.Perm r' := by
  have m1 : a' ≤ a := by
    have := p.mem_iff.1 (List.mem_cons_self (a := a))
    simp only [List.mem_cons] at this
    rcases this with h | h | h
    · omega
    · omega
    · exact (h' a h).1
  have m2 : a ≤ a' := by
    have := p.mem_iff.2 (List.mem_cons_self (a := a'))
    simp only [List.mem_cons] at this
    rcases this with h1 | h1 | h1
    · omega
    · omega
    · exact (h a' h1).1
  have ea : a = a' := by omega
  subst ea
  have p2 := p.cons_inv
  have m3 : b' ≤ b := by
    have := p2.mem_iff.1 (List.mem_cons_self (a := b))
    simp only [List.mem_cons] at this
    rcases this with h | h
    · omega
    · exact (h' b h).2
  have m4 : b ≤ b' := by
    have := p2.mem_iff.2 (List.mem_cons_self (a := b'))
    simp only [List.mem_cons] at this
    rcases this with h1 | h1
    · omega
    · exact (h b' h1).2
  have eb : b = b' := by omega
  subst eb
  exact ⟨rfl, rfl, p2.cons_inv⟩

theorem two_least' {a b a' b' : Int} {r r' : List Int} (p : (a :: b :: r).Perm (a' :: b' :: r')) (h : ∀ x ∈ r, a ≤ x ∧ b ≤ x) (h' : ∀ x ∈ r', a' ≤ x ∧ b' ≤ x) :
    a + b = a' + b' ∧ r.Perm r' := by
  rcases Int.le_total a b with ab | ab <;> rcases Int.le_total a' b' with ab' | ab'
  · obtain ⟨e1, e2, e3⟩ := two_least p ab ab' h h'; exact ⟨by omega, e3⟩
  · obtain ⟨e1, e2, e3⟩ := two_least (p.trans (List.Perm.swap b' a' r')) ab ab' h (fun x hx => ⟨(h' x hx).2, (h' x hx).1⟩); exact ⟨by omega, e3⟩
  · obtain ⟨e1, e2, e3⟩ := two_least ((List.Perm.swap a b r).trans p) ab ab' (fun x hx => ⟨(h x hx).2, (h x hx).1⟩) h'; exact ⟨by omega, e3⟩
  · obtain ⟨e1, e2, e3⟩ := two_least ((List.Perm.swap a b r).trans (p.trans (List.Perm.swap b' a' r'))) ab ab' (fun x hx => ⟨(h x hx).2, (h x hx).1⟩) (fun x hx => ⟨(h' x hx).2, (h' x hx).1⟩); exact ⟨by omega, e3⟩

/-- The total is one. -/
theorem Hs.unique {k : Nat} : ∀ {l l' : List Int} {c c' : Int}, Hs k l c → Hs k l' c' → l.Perm l' → c = c' := by
  induction k with
  | zero => intro l l' c c' h h' _; exact Eq.trans h (Eq.symm h')
  | succ k ih =>
    intro l l' c c' h h' p
    obtain ⟨a, b, r, d, h1, h2, h3, h4⟩ := h
    obtain ⟨a', b', r', d', h1', h2', h3', h4'⟩ := h'
    obtain ⟨e, q⟩ := two_least' (h1.symm.trans (p.trans h1')) h2 h2'
    have : d = d' := ih h4 h4' (by rw [e]; exact q.cons _)
    omega

/-! ### A complete code costs no less -/
def kq (N : Nat) (l : List (Int × Nat)) : Nat := (l.map fun x => 2 ^ (N - x.2)).sum
def cst (l : List (Int × Nat)) : Int := (l.map fun x => x.1 * (x.2 : Int)).sum

theorem kq_cons (N : Nat) (x : Int × Nat) (l : List (Int × Nat)) : kq N (x :: l) = 2 ^ (N - x.2) + kq N l := by simp [kq]
theorem cst_cons (x : Int × Nat) (l : List (Int × Nat)) : cst (x :: l) = x.1 * (x.2 : Int) + cst l := by simp [cst]
theorem kq_perm {N : Nat} {l l' : List (Int × Nat)} (p : l.Perm l') : kq N l = kq N l' := (p.map _).sum_nat
theorem cst_perm {l l' : List (Int × Nat)} (p : l.Perm l') : cst l = cst l' := by
  induction p with
  | nil => rfl
  | cons x _ ih => rw [cst_cons, cst_cons, ih]
  | swap x y l => simp only [cst_cons]; omega
  | trans _ _ ih1 ih2 => exact ih1.trans ih2
/-- Only the lengths count. -/
theorem kq_lens {N : Nat} {l l' : List (Int × Nat)} (p : (l.map Prod.snd).Perm (l'.map Prod.snd)) : kq N l = kq N l' := by
  have h := (p.map fun x => 2 ^ (N - x)).sum_nat
  simpa [kq, List.map_map, Function.comp_def] using h

theorem kq_half {N : Nat} {l : List (Int × Nat)} (h : ∀ x ∈ l, x.2 ≤ N) : kq (N + 1) l = 2 * kq N l := by
  induction l with
  | nil => rfl
  | cons x l ih =>
    have hx : x.2 ≤ N := h x (by simp)
    rw [kq_cons, kq_cons, ih (fun y hy => h y (by simp [hy])), show N + 1 - x.2 = (N - x.2) + 1 by omega, Nat.pow_succ]
    omega

/-- A complete code of two words or more has, among its longest, two of one length. -/
theorem two_deepest : ∀ (N : Nat) (l : List (Int × Nat)), 2 ≤ l.length → (∀ x ∈ l, x.2 ≤ N) → kq N l = 2 ^ N →
    ∃ M u v r, 1 ≤ M ∧ l.Perm ((u, M) :: (v, M) :: r) ∧ (∀ x ∈ l, x.2 ≤ M) ∧ kq M l = 2 ^ M := by
  intro N
  induction N with
  | zero =>
    intro l hl h0 hk
    exfalso
    match l, hl with
    | x :: y :: l, _ =>
      rw [kq_cons, kq_cons] at hk
      have h1 : 0 < 2 ^ (0 - x.2) := Nat.pow_pos (by omega)
      have h2 : 0 < 2 ^ (0 - y.2) := Nat.pow_pos (by omega)
      have h3 : (2 : Nat) ^ 0 = 1 := rfl
      omega
  | succ N ih =>
    intro l hl hN hk
    by_cases hd : ∃ x ∈ l, x.2 = N + 1
    · obtain ⟨⟨u, M⟩, hx, hM⟩ := hd
      simp only at hM
      subst hM
      obtain ⟨s, t, e⟩ := List.append_of_mem hx
      have p1 : l.Perm ((u, N + 1) :: (s ++ t)) := by rw [e]; exact List.perm_middle
      by_cases hd2 : ∃ x ∈ s ++ t, x.2 = N + 1
      · obtain ⟨⟨v, M⟩, hx2, hM⟩ := hd2
        simp only at hM
        subst hM
        obtain ⟨s2, t2, e2⟩ := List.append_of_mem hx2
        refine ⟨N + 1, u, v, s2 ++ t2, by omega, ?_, hN, hk⟩
        rw [e2] at p1
        exact p1.trans (List.perm_middle.cons _)
      · exfalso
        have hN2 : ∀ x ∈ s ++ t, x.2 ≤ N := by
          intro x hx3
          have h1 := hN x (p1.mem_iff.2 (by simp only [List.mem_cons]; exact Or.inr hx3))
          have h2 : ¬ x.2 = N + 1 := fun h => hd2 ⟨x, hx3, h⟩
          omega
        rw [kq_perm p1, kq_cons, kq_half hN2, Nat.pow_succ] at hk
        simp only [Nat.sub_self, Nat.pow_zero] at hk
        omega
    · have hN2 : ∀ x ∈ l, x.2 ≤ N := by
        intro x hx
        have h1 := hN x hx
        have h2 : ¬ x.2 = N + 1 := fun h => hd ⟨x, hx, h⟩
        omega
      rw [kq_half hN2, Nat.pow_succ] at hk
      exact ih l hl hN2 (by omega)

/-- The least weight is brought to a longest word; the cost does not rise. -/
theorem bring {l r : List (Int × Nat)} {u a : Int} {M : Nat} (p : l.Perm ((u, M) :: r)) (hM : ∀ x ∈ l, x.2 ≤ M) (ha : ∃ x ∈ l, x.1 = a) (hmin : ∀ x ∈ l, a ≤ x.1) :
    ∃ r', (r'.map Prod.snd).Perm (r.map Prod.snd) ∧ (l.map Prod.fst).Perm (a :: r'.map Prod.fst) ∧ a * (M : Int) + cst r' ≤ cst l := by
  obtain ⟨⟨a', la⟩, hx, e⟩ := ha
  simp only at e
  subst e
  have hx2 := p.mem_iff.1 hx
  rw [List.mem_cons] at hx2
  rcases hx2 with hx2 | hx2
  · have e1 : a' = u := congrArg Prod.fst hx2
    subst e1
    refine ⟨r, List.Perm.refl _, ?_, ?_⟩
    · simpa using p.map Prod.fst
    · rw [cst_perm p, cst_cons]; exact Int.le_refl _
  · obtain ⟨s, t, e⟩ := List.append_of_mem hx2
    have pr : r.Perm ((a', la) :: (s ++ t)) := by rw [e]; exact List.perm_middle
    have p2 : l.Perm ((u, M) :: (a', la) :: (s ++ t)) := p.trans (pr.cons _)
    have hla : la ≤ M := hM _ hx
    have hu : a' ≤ u := hmin (u, M) (p.mem_iff.2 (by simp))
    refine ⟨(u, la) :: (s ++ t), ?_, ?_, ?_⟩
    · have := pr.map Prod.snd
      simpa using this.symm
    · have := p2.map Prod.fst
      simp only [List.map_cons] at this ⊢
      exact this.trans (List.Perm.swap a' u _)
    · rw [cst_perm p2]
      simp only [cst_cons]
      have h1 : 0 ≤ (u - a') * ((M : Int) - (la : Int)) := Int.mul_nonneg (by omega) (by omega)
      have h2 : (u - a') * ((M : Int) - (la : Int)) = u * M - u * la - a' * M + a' * la := by
        rw [Int.mul_sub, Int.sub_mul, Int.sub_mul]; omega
      rw [h2] at h1
      omega

/-- NO COMPLETE CODE COSTS LESS THAN HUFFMAN's TOTAL. -/
theorem optimal : ∀ (k : Nat) (l : List (Int × Nat)) (N : Nat) (c : Int), l.length = k + 1 → (∀ x ∈ l, x.2 ≤ N) → kq N l = 2 ^ N → (∀ x ∈ l, 0 ≤ x.1) → Hs k (l.map Prod.fst) c → c ≤ cst l := by
  intro k
  induction k with
  | zero =>
    intro l N c hl hN hk hp h
    match l, hl with
    | [x], _ =>
      have h0 : c = 0 := h
      have h1 := hp x (by simp)
      have h2 : 0 ≤ x.1 * (x.2 : Int) := Int.mul_nonneg h1 (by omega)
      have h3 : cst [x] = x.1 * (x.2 : Int) := by simp [cst]
      omega
  | succ k ih =>
    intro l N c hl hN hk hp h
    obtain ⟨a, b, r, c', h1, h2, h3, h4⟩ := h
    obtain ⟨M, u, v, q, hM1, p, hM, hkM⟩ := two_deepest N l (by omega) hN hk
    -- a ≤ b without loss
    have key : ∀ a b : Int, a ≤ b → (l.map Prod.fst).Perm (a :: b :: r) → (∀ x ∈ r, a ≤ x ∧ b ≤ x) → Hs k ((a + b) :: r) c' → a + b + c' ≤ cst l := by
      intro a b hab h1 h2 h4
      have mem : ∀ x ∈ l, x.1 ∈ a :: b :: r := fun x hx => h1.mem_iff.1 (List.mem_map_of_mem hx)
      have hmin : ∀ x ∈ l, a ≤ x.1 := by
        intro x hx
        have := mem x hx
        simp only [List.mem_cons] at this
        rcases this with h | h | h
        · omega
        · omega
        · exact (h2 _ h).1
      have hain : ∃ x ∈ l, x.1 = a := by
        have := h1.mem_iff.2 (List.mem_cons_self (a := a))
        simpa using List.mem_map.1 this
      obtain ⟨r1, l1, w1, c1⟩ := bring p hM hain hmin
      have w2 : (r1.map Prod.fst).Perm (b :: r) := (w1.symm.trans h1).cons_inv
      -- r1 still bears a word of length M
      have hin : ∃ y ∈ r1, y.2 = M := by
        have : M ∈ r1.map Prod.snd := l1.mem_iff.2 (by simp)
        simpa using List.mem_map.1 this
      obtain ⟨⟨v1, M1⟩, hv, e⟩ := hin
      simp only at e
      subst e
      obtain ⟨s, t, e⟩ := List.append_of_mem hv
      have p1 : r1.Perm ((v1, M1) :: (s ++ t)) := by rw [e]; exact List.perm_middle
      have hM' : ∀ x ∈ r1, x.2 ≤ M1 := by
        intro x hx
        have : x.2 ∈ ((v, M1) :: q).map Prod.snd := l1.mem_iff.1 (List.mem_map_of_mem hx)
        simp only [List.map_cons, List.mem_cons] at this
        rcases this with h | h
        · omega
        · obtain ⟨y, hy, e⟩ := List.mem_map.1 h
          have := hM y (p.mem_iff.2 (by simp [hy]))
          omega
      have hmin' : ∀ x ∈ r1, b ≤ x.1 := by
        intro x hx
        have : x.1 ∈ b :: r := w2.mem_iff.1 (List.mem_map_of_mem hx)
        simp only [List.mem_cons] at this
        rcases this with h | h
        · omega
        · exact (h2 _ h).2
      have hbin : ∃ x ∈ r1, x.1 = b := by
        have := w2.mem_iff.2 (List.mem_cons_self (a := b))
        simpa using List.mem_map.1 this
      obtain ⟨r2, l2, w3, c2⟩ := bring p1 hM' hbin hmin'
      have w4 : (r2.map Prod.fst).Perm r := (w3.symm.trans w2).cons_inv
      have l3 : (r2.map Prod.snd).Perm (q.map Prod.snd) := by
        have e1 := (p1.map Prod.snd).symm.trans l1
        simp only [List.map_cons] at e1
        exact l2.trans e1.cons_inv
      -- the merged code
      have kk : kq M1 ((a + b, M1 - 1) :: r2) = 2 ^ M1 := by
        have e1 : kq M1 l = kq M1 ((u, M1) :: (v, M1) :: q) := kq_perm p
        rw [hkM, kq_cons, kq_cons] at e1
        rw [kq_cons, kq_lens l3, e1]
        simp only [Nat.sub_self, Nat.pow_zero]
        rw [show M1 - (M1 - 1) = 1 by omega]
        omega
      have hN3 : ∀ x ∈ (a + b, M1 - 1) :: r2, x.2 ≤ M1 := by
        intro x hx
        rw [List.mem_cons] at hx
        rcases hx with rfl | hx
        · exact Nat.sub_le _ _
        · have : x.2 ∈ q.map Prod.snd := l3.mem_iff.1 (List.mem_map_of_mem hx)
          obtain ⟨y, hy, e⟩ := List.mem_map.1 this
          have := hM y (p.mem_iff.2 (by simp [hy]))
          omega
      have ha0 : 0 ≤ a := by obtain ⟨x, hx, e⟩ := hain; have := hp x hx; omega
      have hpos : ∀ x ∈ (a + b, M1 - 1) :: r2, 0 ≤ x.1 := by
        intro x hx
        rw [List.mem_cons] at hx
        rcases hx with rfl | hx
        · show 0 ≤ a + b; omega
        · have : x.1 ∈ r := w4.mem_iff.1 (List.mem_map_of_mem hx)
          have := (h2 _ this).1
          omega
      have len : ((a + b, M1 - 1) :: r2).length = k + 1 := by
        have e1 := p.length_eq
        have e2 := l3.length_eq
        simp only [List.length_cons, List.length_map] at e1 e2 ⊢
        omega
      have fin := ih _ M1 c' len hN3 kk hpos (h4.perm (by simpa using (w4.symm.cons (a + b))))
      rw [cst_cons] at fin
      have e1 : (a + b) * ((M1 - 1 : Nat) : Int) = (a * M1 + b * M1) - (a + b) := by
        have : ((M1 - 1 : Nat) : Int) = (M1 : Int) - 1 := by omega
        rw [this, Int.mul_sub, Int.add_mul]; omega
      simp only at fin
      rw [e1] at fin
      omega
    rw [h3]
    rcases Int.le_total a b with hab | hab
    · exact key a b hab h1 h2 h4
    · have := key b a hab (h1.trans (List.Perm.swap b a r)) (fun x hx => ⟨(h2 x hx).2, (h2 x hx).1⟩) (by rw [Int.add_comm b a]; exact h4)
      omega
end Go.Proofs.Qxb6601138a.Hf
