/-
  PLAIN: THE TWO QUEUES: leaves in order of weight, inner nodes in the order of making. Nothing of Go here.
-/
import Derived.Test.Qxb6601138aHs
namespace Go.Proofs.Qxb6601138a.Hf

/-! ### Sums over the first k numbers -/
def sm (f : Nat → Int) : Nat → Int
  | 0 => 0
  | k + 1 => sm f k + f k

theorem sm_succ (f : Nat → Int) (k : Nat) : sm f (k + 1) = sm f k + f k := rfl
theorem sm_congr {f g : Nat → Int} {k : Nat} (h : ∀ i, i < k → f i = g i) : sm f k = sm g k := by
  induction k with
  | zero => rfl
  | succ k ih => rw [sm_succ, sm_succ, ih (fun i hi => h i (by omega)), h k (by omega)]
theorem sm_add (f g : Nat → Int) (k : Nat) : sm (fun i => f i + g i) k = sm f k + sm g k := by
  induction k with
  | zero => rfl
  | succ k ih => rw [sm_succ, sm_succ, sm_succ, ih]; omega
theorem sm_mul (a : Int) (f : Nat → Int) (k : Nat) : sm (fun i => a * f i) k = a * sm f k := by
  induction k with
  | zero => simp [sm]
  | succ k ih => rw [sm_succ, sm_succ, ih, Int.mul_add]
theorem sm_nonneg {f : Nat → Int} {k : Nat} (h : ∀ i, i < k → 0 ≤ f i) : 0 ≤ sm f k := by
  induction k with
  | zero => exact Int.le_refl _
  | succ k ih => rw [sm_succ]; have := ih (fun i hi => h i (by omega)); have := h k (by omega); omega
theorem sm_le {f g : Nat → Int} {k : Nat} (h : ∀ i, i < k → f i ≤ g i) : sm f k ≤ sm g k := by
  induction k with
  | zero => exact Int.le_refl _
  | succ k ih => rw [sm_succ, sm_succ]; have := ih (fun i hi => h i (by omega)); have := h k (by omega); omega
theorem sm_term {f : Nat → Int} {k j : Nat} (h : ∀ i, i < k → 0 ≤ f i) (hj : j < k) : f j ≤ sm f k := by
  induction k with
  | zero => omega
  | succ k ih =>
    rw [sm_succ]
    by_cases e : j = k
    · subst e; have := sm_nonneg (k := j) (fun i hi => h i (by omega)); omega
    · have := ih (fun i hi => h i (by omega)) (by omega); have := h k (by omega); omega
theorem sm_const (a : Int) (k : Nat) : sm (fun _ => a) k = a * (k : Int) := by
  induction k with
  | zero => simp [sm]
  | succ k ih => rw [sm_succ, ih]; have : ((k + 1 : Nat) : Int) = (k : Int) + 1 := by omega
                 rw [this, Int.mul_add]; omega

/-- f, but v at i. -/
def upd {α : Type} (f : Nat → α) (i : Nat) (v : α) : Nat → α := fun j => if j = i then v else f j
theorem upd_same {α : Type} (f : Nat → α) (i : Nat) (v : α) : upd f i v i = v := by simp [upd]
theorem upd_ne {α : Type} {f : Nat → α} {i j : Nat} {v : α} (h : j ≠ i) : upd f i v j = f j := by simp [upd, h]

/-! ### The two queues -/
/-- n leaves; t inner nodes made; l leaves and q inner nodes taken. -/
structure TQ (n : Nat) (lw iw : Nat → Int) (lp ip : Nat → Nat) (t l q : Nat) : Prop where
  ln : l ≤ n
  cnt : l + q = 2 * t
  tn : t + 1 ≤ n
  q1 : q ≤ t ∧ (t = 0 ∨ q < t)
  ls : ∀ i j, i ≤ j → j < n → lw i ≤ lw j
  is : ∀ i j, i ≤ j → j < t → iw i ≤ iw j
  lpos : ∀ i, i < n → 0 ≤ lw i
  ipos : ∀ i, i < t → 0 ≤ iw i
  li : ∀ i j, i < l → q ≤ j → j < t → lw i ≤ iw j
  il : ∀ i j, i < q → l ≤ j → j < n → iw i ≤ lw j
  lpr : ∀ i, i < l → lp i < t
  ipr : ∀ i, i < q → i < ip i ∧ ip i < t
  lpm : ∀ i j, i ≤ j → j < l → lp i ≤ lp j
  ipm : ∀ i j, i ≤ j → j < q → ip i ≤ ip j
  oli : ∀ i j, i < l → j < q → lp i < ip j → lw i ≤ iw j
  oil : ∀ i j, i < q → j < l → ip i < lp j → iw i ≤ lw j
  sums : ∀ g : Nat → Int, sm (fun i => lw i * g (lp i)) l + sm (fun i => iw i * g (ip i)) q = sm (fun k => iw k * g k) t
  cnts : ∀ g : Nat → Int, sm (fun i => g (lp i)) l + sm (fun i => g (ip i)) q = sm (fun k => 2 * g k) t

theorem TQ.start {n : Nat} (hn : 1 ≤ n) {lw : Nat → Int} (iw : Nat → Int) (lp ip : Nat → Nat) (ls : ∀ i j, i ≤ j → j < n → lw i ≤ lw j) (lpos : ∀ i, i < n → 0 ≤ lw i) : TQ n lw iw lp ip 0 0 0 where
  ln := by omega
  cnt := by omega
  tn := by omega
  q1 := by omega
  ls := ls
  is := fun i j _ h => by omega
  lpos := lpos
  ipos := fun i h => by omega
  li := fun i j h _ _ => by omega
  il := fun i j h _ _ => by omega
  lpr := fun i h => by omega
  ipr := fun i h => by omega
  lpm := fun i j _ h => by omega
  ipm := fun i j _ h => by omega
  oli := fun i j h _ _ => by omega
  oil := fun i j h _ _ => by omega
  sums := fun g => rfl
  cnts := fun g => rfl

/-- Is the next pick a leaf? -/
def pkL (n : Nat) (lw iw : Nat → Int) (t l q : Nat) : Bool := decide (l < n ∧ (q = t ∨ lw l ≤ iw q))

/-- One half of a round: the pick numbered s (0 or 1) of node t; 'a': the weight picked before (for the first pick: none). HALF n .. t l q: as TQ, but the parents of what is taken may be t itself, and all that has parent t adds up to x, c of them. -/
structure TH (n : Nat) (lw iw : Nat → Int) (lp ip : Nat → Nat) (t l q : Nat) (c : Nat) (x : Int) : Prop where
  ln : l ≤ n
  cnt : l + q = 2 * t + c
  c2 : c ≤ 2
  tn : t + 2 ≤ n
  q1 : q ≤ t
  ls : ∀ i j, i ≤ j → j < n → lw i ≤ lw j
  is : ∀ i j, i ≤ j → j < t → iw i ≤ iw j
  lpos : ∀ i, i < n → 0 ≤ lw i
  ipos : ∀ i, i < t → 0 ≤ iw i
  li : ∀ i j, i < l → q ≤ j → j < t → lw i ≤ iw j
  il : ∀ i j, i < q → l ≤ j → j < n → iw i ≤ lw j
  lpr : ∀ i, i < l → lp i ≤ t
  ipr : ∀ i, i < q → i < ip i ∧ ip i ≤ t
  lpm : ∀ i j, i ≤ j → j < l → lp i ≤ lp j
  ipm : ∀ i j, i ≤ j → j < q → ip i ≤ ip j
  oli : ∀ i j, i < l → j < q → lp i < ip j → lw i ≤ iw j
  oil : ∀ i j, i < q → j < l → ip i < lp j → iw i ≤ lw j
  sums : ∀ g : Nat → Int, sm (fun i => lw i * g (lp i)) l + sm (fun i => iw i * g (ip i)) q = sm (fun k => iw k * g k) t + x * g t
  cnts : ∀ g : Nat → Int, sm (fun i => g (lp i)) l + sm (fun i => g (ip i)) q = sm (fun k => 2 * g k) t + (c : Int) * g t
  x0 : 0 ≤ x
  /-- what was picked for t weighs, all together, no more than c of whatever is left; and no less than what an inner node weighs, halves counted -/
  xl : ∀ j, l ≤ j → j < n → x ≤ (c : Int) * lw j
  xi : ∀ j, q ≤ j → j < t → x ≤ (c : Int) * iw j
  /-- the last inner node made weighs no more than two of whatever is picked or left -/
  tl : 1 ≤ t → ∀ j, l ≤ j → j < n → iw (t - 1) ≤ 2 * lw j
  ti : 1 ≤ t → ∀ j, q ≤ j → j < t → iw (t - 1) ≤ 2 * iw j
  tx : 1 ≤ t → (c : Int) * iw (t - 1) ≤ 2 * x

/-- Two of whatever is left weigh no less than the last node made. -/
structure TL (n : Nat) (lw iw : Nat → Int) (t l q : Nat) : Prop where
  tl : 1 ≤ t → ∀ j, l ≤ j → j < n → iw (t - 1) ≤ 2 * lw j
  ti : 1 ≤ t → ∀ j, q ≤ j → j < t → iw (t - 1) ≤ 2 * iw j

theorem TQ.half {n : Nat} {lw iw : Nat → Int} {lp ip : Nat → Nat} {t l q : Nat} (h : TQ n lw iw lp ip t l q) (k : TL n lw iw t l q) (ht : t + 2 ≤ n) : TH n lw iw lp ip t l q 0 0 where
  ln := h.ln
  cnt := by have := h.cnt; omega
  c2 := by omega
  tn := ht
  q1 := h.q1.1
  ls := h.ls
  is := h.is
  lpos := h.lpos
  ipos := h.ipos
  li := h.li
  il := h.il
  lpr := fun i hi => Nat.le_of_lt (h.lpr i hi)
  ipr := fun i hi => ⟨(h.ipr i hi).1, Nat.le_of_lt (h.ipr i hi).2⟩
  lpm := h.lpm
  ipm := h.ipm
  oli := h.oli
  oil := h.oil
  sums := fun g => by rw [h.sums g]; simp
  cnts := fun g => by rw [h.cnts g]; simp
  x0 := by omega
  xl := fun j _ _ => by simp
  xi := fun j _ _ => by simp
  tl := k.tl
  ti := k.ti
  tx := fun _ => by simp

theorem TH.left {n : Nat} {lw iw : Nat → Int} {lp ip : Nat → Nat} {t l q c : Nat} {x : Int} (h : TH n lw iw lp ip t l q c x) (hc : c < 2) : l < n ∨ q < t := by
  have h1 := h.cnt
  have h2 := h.tn
  have h3 := h.ln
  have h4 := h.q1
  omega

/-- A leaf is picked. -/
theorem TH.leaf {n : Nat} {lw iw : Nat → Int} {lp ip : Nat → Nat} {t l q c : Nat} {x : Int} (h : TH n lw iw lp ip t l q c x) (hc : c < 2) (hl : l < n) (hmin : q = t ∨ lw l ≤ iw q) :
    TH n lw iw (upd lp l t) ip t (l + 1) q (c + 1) (x + lw l) := by
  have le : ∀ j, q ≤ j → j < t → lw l ≤ iw j := fun j h1 h2 => by
    rcases hmin with hm | hm
    · omega
    · exact Int.le_trans hm (h.is q j h1 h2)
  have up : ∀ i, i < l → upd lp l t i = lp i := fun i hi => upd_ne (by omega)
  have upl : upd lp l t l = t := upd_same _ _ _
  have hx := h.xl l (Nat.le_refl _) hl
  have h0 := h.lpos l hl
  refine { h with ln := hl, cnt := by have := h.cnt; omega, c2 := by omega, li := ?_, il := ?_, lpr := ?_, lpm := ?_, oli := ?_, oil := ?_, sums := ?_, cnts := ?_, x0 := by have := h.x0; omega, xl := ?_, xi := ?_, tl := ?_, tx := ?_ }
  · intro i j hi h1 h2
    by_cases e : i = l
    · subst e; exact le j h1 h2
    · exact h.li i j (by omega) h1 h2
  · intro i j hi h1 h2; exact h.il i j hi (by omega) h2
  · intro i hi
    by_cases e : i = l
    · subst e; rw [upl]; exact Nat.le_refl _
    · rw [up i (by omega)]; exact h.lpr i (by omega)
  · intro i j hij hj
    by_cases e : j = l
    · subst e; rw [upl]
      by_cases e2 : i = j
      · subst e2; rw [upl]; exact Nat.le_refl _
      · rw [up i (by omega)]; exact h.lpr i (by omega)
    · rw [up i (by omega), up j (by omega)]; exact h.lpm i j hij (by omega)
  · intro i j hi hj hp
    by_cases e : i = l
    · subst e; rw [upl] at hp; have := (h.ipr j hj).2; omega
    · rw [up i (by omega)] at hp; exact h.oli i j (by omega) hj hp
  · intro i j hi hj hp
    by_cases e : j = l
    · subst e; exact h.il i j hi (Nat.le_refl _) hl
    · rw [up j (by omega)] at hp; exact h.oil i j hi (by omega) hp
  · intro g
    rw [sm_succ, upl, sm_congr (g := fun i => lw i * g (lp i)) (fun i hi => by rw [up i hi])]
    have := h.sums g
    rw [Int.add_mul]
    omega
  · intro g
    rw [sm_succ, upl, sm_congr (g := fun i => g (lp i)) (fun i hi => by rw [up i hi])]
    have := h.cnts g
    rw [show ((c + 1 : Nat) : Int) = (c : Int) + 1 by omega, Int.add_mul]
    omega
  · intro j h1 h2
    rw [show ((c + 1 : Nat) : Int) = (c : Int) + 1 by omega, Int.add_mul]
    have := h.xl j (by omega) h2
    have := h.ls l j (by omega) h2
    omega
  · intro j h1 h2
    rw [show ((c + 1 : Nat) : Int) = (c : Int) + 1 by omega, Int.add_mul]
    have := h.xi j h1 h2
    have := le j h1 h2
    omega
  · intro ht j h1 h2; exact h.tl ht j (by omega) h2
  · intro ht
    rw [show ((c + 1 : Nat) : Int) = (c : Int) + 1 by omega, Int.add_mul]
    have := h.tx ht
    have := h.tl ht l (Nat.le_refl _) hl
    omega

/-- An inner node is picked. -/
theorem TH.inner {n : Nat} {lw iw : Nat → Int} {lp ip : Nat → Nat} {t l q c : Nat} {x : Int} (h : TH n lw iw lp ip t l q c x) (hc : c < 2) (hq : q < t) (hmin : l = n ∨ iw q < lw l) :
    TH n lw iw lp (upd ip q t) t l (q + 1) (c + 1) (x + iw q) := by
  have le : ∀ j, l ≤ j → j < n → iw q ≤ lw j := fun j h1 h2 => by
    rcases hmin with hm | hm
    · omega
    · have := h.ls l j h1 h2; omega
  have up : ∀ i, i < q → upd ip q t i = ip i := fun i hi => upd_ne (by omega)
  have upl : upd ip q t q = t := upd_same _ _ _
  refine { h with cnt := by have := h.cnt; omega, c2 := by omega, q1 := hq, li := ?_, il := ?_, ipr := ?_, ipm := ?_, oli := ?_, oil := ?_, sums := ?_, cnts := ?_, x0 := by have := h.x0; have := h.ipos q hq; omega, xl := ?_, xi := ?_, ti := ?_, tx := ?_ }
  · intro i j hi h1 h2; exact h.li i j hi (by omega) h2
  · intro i j hi h1 h2
    by_cases e : i = q
    · subst e; exact le j h1 h2
    · exact h.il i j (by omega) h1 h2
  · intro i hi
    by_cases e : i = q
    · subst e; rw [upl]; exact ⟨hq, Nat.le_refl _⟩
    · rw [up i (by omega)]; exact h.ipr i (by omega)
  · intro i j hij hj
    by_cases e : j = q
    · subst e; rw [upl]
      by_cases e2 : i = j
      · subst e2; rw [upl]; exact Nat.le_refl _
      · rw [up i (by omega)]; exact (h.ipr i (by omega)).2
    · rw [up i (by omega), up j (by omega)]; exact h.ipm i j hij (by omega)
  · intro i j hi hj hp
    by_cases e : j = q
    · subst e; exact h.li i j hi (Nat.le_refl _) hq
    · rw [up j (by omega)] at hp; exact h.oli i j hi (by omega) hp
  · intro i j hi hj hp
    by_cases e : i = q
    · subst e; rw [upl] at hp; have := h.lpr j hj; omega
    · rw [up i (by omega)] at hp; exact h.oil i j (by omega) hj hp
  · intro g
    rw [sm_succ, upl, sm_congr (f := fun i => iw i * g (upd ip q t i)) (g := fun i => iw i * g (ip i)) (fun i hi => by rw [up i hi])]
    have := h.sums g
    rw [Int.add_mul]
    omega
  · intro g
    rw [sm_succ, upl, sm_congr (f := fun i => g (upd ip q t i)) (g := fun i => g (ip i)) (fun i hi => by rw [up i hi])]
    have := h.cnts g
    rw [show ((c + 1 : Nat) : Int) = (c : Int) + 1 by omega, Int.add_mul]
    omega
  · intro j h1 h2
    rw [show ((c + 1 : Nat) : Int) = (c : Int) + 1 by omega, Int.add_mul]
    have := h.xl j h1 h2
    have := le j h1 h2
    omega
  · intro j h1 h2
    rw [show ((c + 1 : Nat) : Int) = (c : Int) + 1 by omega, Int.add_mul]
    have := h.xi j (by omega) h2
    have := h.is q j (by omega) h2
    omega
  · intro ht j h1 h2; exact h.ti ht j (by omega) h2
  · intro ht
    rw [show ((c + 1 : Nat) : Int) = (c : Int) + 1 by omega, Int.add_mul]
    have := h.tx ht
    have := h.ti ht q (Nat.le_refl _) hq
    omega

/-- Both are picked: node t is made. -/
theorem TH.made {n : Nat} {lw iw : Nat → Int} {lp ip : Nat → Nat} {t l q : Nat} {x : Int} (h : TH n lw iw lp ip t l q 2 x) :
    TQ n lw (upd iw t x) lp ip (t + 1) l q ∧ TL n lw (upd iw t x) (t + 1) l q := by
  have up : ∀ i, i < t → upd iw t x i = iw i := fun i hi => upd_ne (by omega)
  have upl : upd iw t x t = x := upd_same _ _ _
  have big : ∀ i, i < t → iw i ≤ x := by
    intro i hi
    have h1 := h.is i (t - 1) (by omega) (by omega)
    have h2 := h.tx (by omega)
    have h3 : ((2 : Nat) : Int) = 2 := rfl
    rw [h3] at h2
    omega
  have hq := h.q1
  constructor
  · refine { ln := h.ln, cnt := by have := h.cnt; omega, tn := by have := h.tn; omega, q1 := ⟨by omega, Or.inr (by omega)⟩, ls := h.ls, is := ?_, lpos := h.lpos, ipos := ?_, li := ?_, il := ?_, lpr := fun i hi => by have := h.lpr i hi; omega, ipr := fun i hi => ⟨(h.ipr i hi).1, by have := (h.ipr i hi).2; omega⟩, lpm := h.lpm, ipm := h.ipm, oli := ?_, oil := ?_, sums := ?_, cnts := ?_ }
    · intro i j hij hj
      by_cases e : j = t
      · subst e; rw [upl]
        by_cases e2 : i = j
        · subst e2; rw [upl]; exact Int.le_refl _
        · rw [up i (by omega)]; exact big i (by omega)
      · rw [up i (by omega), up j (by omega)]; exact h.is i j hij (by omega)
    · intro i hi
      by_cases e : i = t
      · subst e; rw [upl]; exact h.x0
      · rw [up i (by omega)]; exact h.ipos i (by omega)
    · intro i j hi h1 h2
      by_cases e : j = t
      · subst e; rw [upl]
        -- a leaf that was taken weighs no more than x
        have hs := h.sums (fun k => if k = lp i then 1 else 0)
        by_cases e2 : lp i = j
        · -- one of the two
          have h3 : lw i * 1 ≤ sm (fun i' => lw i' * (if lp i' = lp i then 1 else 0)) l := by
            have := sm_term (f := fun i' => lw i' * (if lp i' = lp i then 1 else 0)) (k := l) (j := i) (fun i' hi' => by
              have := h.lpos i' (by have := h.ln; omega)
              split
              · omega
              · simp) hi
            simpa using this
          have h4 : 0 ≤ sm (fun i' => iw i' * (if ip i' = lp i then 1 else 0)) q := sm_nonneg (fun i' hi' => by
            have := h.ipos i' (by omega)
            split
            · omega
            · simp)
          have h5 : sm (fun k => iw k * (if k = lp i then 1 else 0)) j = 0 := by
            rw [sm_congr (g := fun _ => 0) (fun i' hi' => by rw [if_neg (by omega)]; simp), sm_const]; simp
          simp only [e2] at hs h3 h4 h5
          rw [h5] at hs
          simp only [if_true] at hs
          omega
        · have h3 : lp i < j := by have := h.lpr i hi; omega
          -- the node lp i weighs at least lw i, and no more than x
          have h3' : lw i * 1 ≤ sm (fun i' => lw i' * (if lp i' = lp i then 1 else 0)) l := by
            have := sm_term (f := fun i' => lw i' * (if lp i' = lp i then 1 else 0)) (k := l) (j := i) (fun i' hi' => by
              have := h.lpos i' (by have := h.ln; omega)
              split
              · omega
              · simp) hi
            simpa using this
          have h4 : 0 ≤ sm (fun i' => iw i' * (if ip i' = lp i then 1 else 0)) q := sm_nonneg (fun i' hi' => by
            have := h.ipos i' (by omega)
            split
            · omega
            · simp)
          have h5 : sm (fun k => iw k * (if k = lp i then 1 else 0)) j ≤ iw (lp i) := by
            have : ∀ m, m ≤ j → sm (fun k => iw k * (if k = lp i then 1 else 0)) m = if lp i < m then iw (lp i) else 0 := by
              intro m hm
              induction m with
              | zero => rfl
              | succ m ihm =>
                rw [sm_succ, ihm (by omega)]
                by_cases e3 : m = lp i
                · subst e3; rw [if_neg (by omega), if_pos rfl, if_pos (by omega)]; omega
                · rw [if_neg e3]
                  by_cases e4 : lp i < m
                  · rw [if_pos e4, if_pos (by omega)]; omega
                  · rw [if_neg e4, if_neg (by omega)]; omega
            rw [this j (Nat.le_refl _), if_pos h3]; exact Int.le_refl _
          have h6 := big (lp i) h3
          rw [if_neg (fun h' => e2 h'.symm)] at hs
          omega
      · rw [up j (by omega)]; exact h.li i j hi h1 (by omega)
    · intro i j hi h1 h2
      rw [up i (by omega)]; exact h.il i j hi h1 h2
    · intro i j hi hj hp; rw [up j (by omega)]; exact h.oli i j hi hj hp
    · intro i j hi hj hp; rw [up i (by omega)]; exact h.oil i j hi hj hp
    · intro g
      rw [sm_succ, upl, sm_congr (f := fun k => upd iw t x k * g k) (g := fun k => iw k * g k) (fun i hi => by rw [up i hi]), sm_congr (f := fun i => upd iw t x i * g (ip i)) (g := fun i => iw i * g (ip i)) (fun i hi => by rw [up i (by omega)])]
      exact h.sums g
    · intro g
      rw [sm_succ]
      exact h.cnts g
  · constructor
    · intro _ j h1 h2
      rw [show t + 1 - 1 = t by omega, upl]
      exact h.xl j h1 h2
    · intro _ j h1 h2
      rw [show t + 1 - 1 = t by omega, upl]
      by_cases e : j = t
      · subst e; rw [upl]; have := h.x0; omega
      · rw [up j (by omega)]; exact h.xi j h1 (by omega)
end Go.Proofs.Qxb6601138a.Hf
