/-
  PLAIN: WHAT THE TWO QUEUES COME TO: the total is Huffman's; the depths; Kraft's sum; the cost; the bound by Fibonacci's numbers. Nothing of Go here.
-/
import Derived.Test.Qxb6601138aTq
namespace Go.Proofs.Qxb6601138a.Hf

/-! ### The pool -/
def pool (n : Nat) (lw iw : Nat → Int) (t l q : Nat) : List Int := (List.range' l (n - l)).map lw ++ (List.range' q (t - q)).map iw
theorem mem_pool {n : Nat} {lw iw : Nat → Int} {t l q : Nat} {y : Int} (h : y ∈ pool n lw iw t l q) : (∃ j, l ≤ j ∧ j < n ∧ y = lw j) ∨ (∃ j, q ≤ j ∧ j < t ∧ y = iw j) := by
  unfold pool at h
  rw [List.mem_append] at h
  rcases h with h | h
  · obtain ⟨j, hj, e⟩ := List.mem_map.1 h
    rw [List.mem_range'_1] at hj
    exact Or.inl ⟨j, hj.1, by omega, e.symm⟩
  · obtain ⟨j, hj, e⟩ := List.mem_map.1 h
    rw [List.mem_range'_1] at hj
    exact Or.inr ⟨j, hj.1, by omega, e.symm⟩

/-- One pick: which, and what it weighs. -/
def Pick (n : Nat) (lw iw : Nat → Int) (t l q l' q' : Nat) (a : Int) : Prop :=
  (l < n ∧ (q = t ∨ lw l ≤ iw q) ∧ l' = l + 1 ∧ q' = q ∧ a = lw l) ∨ (q < t ∧ (l = n ∨ iw q < lw l) ∧ l' = l ∧ q' = q + 1 ∧ a = iw q)

theorem pool_pick {n : Nat} {lw iw : Nat → Int} {t l q l' q' : Nat} {a : Int} (ls : ∀ i j, i ≤ j → j < n → lw i ≤ lw j) (is : ∀ i j, i ≤ j → j < t → iw i ≤ iw j) (hl : l ≤ n) (hq : q ≤ t) (p : Pick n lw iw t l q l' q' a) :
    (pool n lw iw t l q).Perm (a :: pool n lw iw t l' q') ∧ ∀ y ∈ pool n lw iw t l' q', a ≤ y := by
  rcases p with ⟨h1, h2, rfl, rfl, rfl⟩ | ⟨h1, h2, rfl, rfl, rfl⟩
  · constructor
    · unfold pool
      rw [show n - l = (n - (l + 1)) + 1 by omega, List.range'_succ, List.map_cons, List.cons_append]
    · intro y hy
      rcases mem_pool hy with ⟨j, h3, h4, rfl⟩ | ⟨j, h3, h4, rfl⟩
      · exact ls _ _ (by omega) h4
      · rcases h2 with h2 | h2
        · omega
        · exact Int.le_trans h2 (is _ _ h3 h4)
  · constructor
    · unfold pool
      rw [show t - q = (t - (q + 1)) + 1 by omega, List.range'_succ, List.map_cons]
      exact List.perm_middle
    · intro y hy
      rcases mem_pool hy with ⟨j, h3, h4, rfl⟩ | ⟨j, h3, h4, rfl⟩
      · rcases h2 with h2 | h2
        · omega
        · have := ls l' j h3 h4; omega
      · exact is _ _ (by omega) h4

theorem pool_made {n : Nat} {lw iw : Nat → Int} {t l q : Nat} {x : Int} (hq : q ≤ t) : (pool n lw (upd iw t x) (t + 1) l q).Perm (x :: pool n lw iw t l q) := by
  unfold pool
  have e : (List.range' q (t + 1 - q)).map (upd iw t x) = (List.range' q (t - q)).map iw ++ [x] := by
    rw [show t + 1 - q = (t - q) + 1 by omega, List.range'_concat, List.map_append]
    congr 1
    · apply List.map_congr_left
      intro j hj
      rw [List.mem_range'_1] at hj
      exact upd_ne (by omega)
    · simp [show q + (t - q) = t by omega, upd_same]
  rw [e, ← List.append_assoc]
  exact List.perm_append_singleton _ _

def leaves (n : Nat) (lw : Nat → Int) : List Int := (List.range' 0 n).map lw
/-- What is left to merge, and what has been added up, make the whole. -/
def HI (n : Nat) (lw iw : Nat → Int) (t l q : Nat) : Prop := ∀ c, Hs (n - 1 - t) (pool n lw iw t l q) c → Hs (n - 1) (leaves n lw) (c + sm iw t)

theorem HI.start (n : Nat) (lw iw : Nat → Int) : HI n lw iw 0 0 0 := by
  intro c h
  have e : pool n lw iw 0 0 0 = leaves n lw := by simp [pool, leaves]
  rw [e] at h
  simpa [sm] using h

theorem HI.step {n : Nat} {lw iw : Nat → Int} {t l q l1 q1 l2 q2 : Nat} {a b : Int} (h : HI n lw iw t l q) (ht : t + 2 ≤ n) (ls : ∀ i j, i ≤ j → j < n → lw i ≤ lw j) (is : ∀ i j, i ≤ j → j < t → iw i ≤ iw j) (hl : l ≤ n) (hq : q ≤ t)
    (p1 : Pick n lw iw t l q l1 q1 a) (p2 : Pick n lw iw t l1 q1 l2 q2 b) : HI n lw (upd iw t (a + b)) (t + 1) l2 q2 := by
  have g1 : l1 ≤ n ∧ q1 ≤ t := by rcases p1 with ⟨h1, h2, rfl, rfl, rfl⟩ | ⟨h1, h2, rfl, rfl, rfl⟩ <;> omega
  have g2 : l2 ≤ n ∧ q2 ≤ t := by rcases p2 with ⟨h1, h2, rfl, rfl, rfl⟩ | ⟨h1, h2, rfl, rfl, rfl⟩ <;> omega
  obtain ⟨e1, m1⟩ := pool_pick ls is hl hq p1
  obtain ⟨e2, m2⟩ := pool_pick ls is g1.1 g1.2 p2
  intro c hc
  have hc' := hc.perm (pool_made g2.2)
  have hs : Hs (n - 1 - t) (pool n lw iw t l q) (a + b + c) := by
    rw [show n - 1 - t = (n - 1 - (t + 1)) + 1 by omega]
    refine ⟨a, b, _, c, e1.trans (e2.cons a), ?_, rfl, hc'⟩
    intro x hx
    exact ⟨m1 x (e2.mem_iff.2 (by simp [hx])), m2 x hx⟩
  have := h _ hs
  rw [sm_succ, upd_same, sm_congr (f := upd iw t (a + b)) (g := iw) (fun i hi => upd_ne (by omega))]
  rw [show c + (sm iw t + (a + b)) = a + b + c + sm iw t by omega]
  exact this

theorem HI.done {n : Nat} {lw iw : Nat → Int} {l q : Nat} (h : HI n lw iw (n - 1) l q) : Hs (n - 1) (leaves n lw) (sm iw (n - 1)) := by
  have := h 0 (by rw [Nat.sub_self]; exact rfl)
  simpa using this

/-! ### The end of the merging -/
theorem TQ.fin {n : Nat} {lw iw : Nat → Int} {lp ip : Nat → Nat} {l q : Nat} (h : TQ n lw iw lp ip (n - 1) l q) (hn : 2 ≤ n) : l = n ∧ q = n - 2 := by
  have h1 := h.ln
  have h2 := h.cnt
  have h3 := h.q1
  omega

/-- The depths of the inner nodes. -/
structure Dep (n : Nat) (ip : Nat → Nat) (d : Nat → Nat) : Prop where
  root : d (n - 2) = 0
  node : ∀ i, i < n - 2 → d i = d (ip i) + 1

section
variable {n : Nat} {lw iw : Nat → Int} {lp ip : Nat → Nat} {d : Nat → Nat}

theorem dep_le (h : TQ n lw iw lp ip (n - 1) n (n - 2)) (hd : Dep n ip d) : ∀ k i, i ≤ n - 2 → n - 2 - i ≤ k → d i ≤ n - 2 - i := by
  intro k
  induction k with
  | zero =>
    intro i hi hk
    have : i = n - 2 := by omega
    subst this
    rw [hd.root]; omega
  | succ k ih =>
    intro i hi hk
    by_cases e : i = n - 2
    · subst e; rw [hd.root]; omega
    · have h1 := h.ipr i (by omega)
      rw [hd.node i (by omega)]
      have := ih (ip i) (by omega) (by omega)
      omega
theorem dep_mono (h : TQ n lw iw lp ip (n - 1) n (n - 2)) (hd : Dep n ip d) : ∀ k i j, i ≤ j → j ≤ n - 2 → n - 2 - i ≤ k → d j ≤ d i := by
  intro k
  induction k with
  | zero =>
    intro i j hij hj hk
    have : i = j := by omega
    subst this; exact Nat.le_refl _
  | succ k ih =>
    intro i j hij hj hk
    by_cases e : j = n - 2
    · subst e; rw [hd.root]; omega
    · have h1 := h.ipr i (by omega)
      have h2 := h.ipr j (by omega)
      have h3 := h.ipm i j hij (by omega)
      rw [hd.node i (by omega), hd.node j (by omega)]
      have := ih (ip i) (ip j) h3 (by omega) (by omega)
      omega

/-- The depths of the leaves. -/
def dl (lp : Nat → Nat) (d : Nat → Nat) (i : Nat) : Nat := d (lp i) + 1

theorem dl_le (h : TQ n lw iw lp ip (n - 1) n (n - 2)) (hd : Dep n ip d) {i : Nat} (hi : i < n) : 1 ≤ dl lp d i ∧ dl lp d i ≤ n - 1 := by
  have h1 := h.lpr i hi
  have := dep_le h hd (n - 2) (lp i) (by omega) (by omega)
  unfold dl
  omega
theorem dl_mono (h : TQ n lw iw lp ip (n - 1) n (n - 2)) (hd : Dep n ip d) {i j : Nat} (hij : i ≤ j) (hj : j < n) : dl lp d j ≤ dl lp d i := by
  have h1 := h.lpr j hj
  have h2 := h.lpm i j hij hj
  have := dep_mono h hd (n - 2) (lp i) (lp j) h2 (by omega) (by omega)
  unfold dl
  omega

theorem pow_cast (k : Nat) : (((2 ^ k : Nat)) : Int) = (2 : Int) ^ k := by simp

/-- Kraft's sum over the leaves is one. -/
theorem kraft (hn : 2 ≤ n) (h : TQ n lw iw lp ip (n - 1) n (n - 2)) (hd : Dep n ip d) : sm (fun i => ((2 ^ (n - 1 - dl lp d i) : Nat) : Int)) n = ((2 ^ (n - 1) : Nat) : Int) := by
  have hc := h.cnts (fun k => ((2 ^ (n - 2 - d k) : Nat) : Int))
  have e1 : sm (fun i => ((2 ^ (n - 2 - d (lp i)) : Nat) : Int)) n = sm (fun i => ((2 ^ (n - 1 - dl lp d i) : Nat) : Int)) n :=
    sm_congr (fun i hi => by unfold dl; rw [show n - 1 - (d (lp i) + 1) = n - 2 - d (lp i) by omega])
  have e2 : sm (fun i => ((2 ^ (n - 2 - d (ip i)) : Nat) : Int)) (n - 2) = sm (fun k => 2 * ((2 ^ (n - 2 - d k) : Nat) : Int)) (n - 2) := by
    apply sm_congr
    intro i hi
    have h1 := h.ipr i hi
    have h2 := dep_le h hd (n - 2) i (by omega) (by omega)
    rw [hd.node i hi] at h2 ⊢
    rw [show n - 2 - d (ip i) = (n - 2 - (d (ip i) + 1)) + 1 by omega, Nat.pow_succ]
    omega
  rw [show n - 1 = (n - 2) + 1 by omega] at hc
  rw [sm_succ, hd.root, e1, e2] at hc
  have e3 : (2 ^ (n - 1) : Nat) = 2 * 2 ^ (n - 2 - 0) := by
    rw [show n - 1 = (n - 2 - 0) + 1 by omega, Nat.pow_succ]; omega
  rw [e3]
  omega

/-- The cost is the sum of the merged weights. -/
theorem cost (hn : 2 ≤ n) (h : TQ n lw iw lp ip (n - 1) n (n - 2)) (hd : Dep n ip d) : sm (fun i => lw i * (dl lp d i : Int)) n = sm iw (n - 1) := by
  have hs := h.sums (fun k => (d k : Int) + 1)
  have e1 : sm (fun i => lw i * ((d (lp i) : Int) + 1)) n = sm (fun i => lw i * (dl lp d i : Int)) n := sm_congr (fun i _ => by unfold dl; simp)
  have e2 : sm (fun i => iw i * ((d (ip i) : Int) + 1)) (n - 2) = sm (fun i => iw i * (d i : Int)) (n - 2) := sm_congr (fun i hi => by rw [hd.node i hi]; simp)
  have e3 : sm (fun k => iw k * ((d k : Int) + 1)) (n - 1) = sm (fun k => iw k * (d k : Int)) (n - 1) + sm iw (n - 1) := by
    rw [← sm_add]
    exact sm_congr (fun i _ => by rw [Int.mul_add]; omega)
  rw [e1, e2, e3] at hs
  have e4 : sm (fun k => iw k * (d k : Int)) (n - 1) = sm (fun k => iw k * (d k : Int)) (n - 2) := by
    rw [show n - 1 = (n - 2) + 1 by omega, sm_succ, hd.root]; simp
  rw [e4] at hs
  omega

/-- The root weighs what all leaves weigh. -/
theorem total (hn : 2 ≤ n) (h : TQ n lw iw lp ip (n - 1) n (n - 2)) : iw (n - 2) = sm lw n := by
  have hs := h.sums (fun _ => 1)
  simp only [Int.mul_one] at hs
  rw [show n - 1 = (n - 2) + 1 by omega] at hs
  rw [sm_succ] at hs
  have e1 : sm (fun i => lw i) n = sm lw n := rfl
  have e2 : sm (fun i => iw i) (n - 2) = sm iw (n - 2) := rfl
  have e3 : sm (fun k => iw k) (n - 2) = sm iw (n - 2) := rfl
  omega

/-! ### Fibonacci's bound -/
/-- Every child of k weighs v or more, and inner node j is one of them: then k weighs what j weighs, and v. -/
theorem sib (h : TQ n lw iw lp ip (n - 1) n (n - 2)) {j k : Nat} {v : Int} (hj : j < n - 2) (hk : ip j = k) (h1 : ∀ i, i < n → lp i = k → v ≤ lw i) (h2 : ∀ i, i < n - 2 → ip i = k → v ≤ iw i) : iw j + v ≤ iw k := by
  have hs := h.sums (fun x => if x = k then 1 else 0)
  have hc := h.cnts (fun x => if x = k then 1 else 0)
  have hk2 : k < n - 1 := by have := (h.ipr j hj).2; omega
  have one : ∀ (f : Nat → Int) m, m ≤ n - 1 → sm (fun x => f x * (if x = k then 1 else 0)) m = if k < m then f k else 0 := by
    intro f m hm
    induction m with
    | zero => rfl
    | succ m ih =>
      rw [sm_succ, ih (by omega)]
      by_cases e : m = k
      · subst e; rw [if_neg (by omega), if_pos rfl, if_pos (by omega)]; omega
      · rw [if_neg e]
        by_cases e4 : k < m
        · rw [if_pos e4, if_pos (by omega)]; omega
        · rw [if_neg e4, if_neg (by omega)]; omega
  rw [one iw (n - 1) (Nat.le_refl _), if_pos hk2] at hs
  have o2 : sm (fun x => 2 * (if x = k then 1 else 0)) (n - 1) = 2 := by
    rw [one (fun _ => 2) (n - 1) (Nat.le_refl _), if_pos hk2]
  rw [o2] at hc
  -- the weights above v
  have g1 : 0 ≤ sm (fun i => (lw i - v) * (if lp i = k then 1 else 0)) n := sm_nonneg (fun i hi => by
    by_cases e : lp i = k
    · have := h1 i hi e; rw [if_pos e]; omega
    · rw [if_neg e]; simp)
  have g2 : (iw j - v) * 1 ≤ sm (fun i => (iw i - v) * (if ip i = k then 1 else 0)) (n - 2) := by
    have := sm_term (f := fun i => (iw i - v) * (if ip i = k then 1 else 0)) (k := n - 2) (j := j) (fun i hi => by
      by_cases e : ip i = k
      · have := h2 i hi e; simp only [if_pos e]; omega
      · simp only [if_neg e]; simp) hj
    simpa [hk] using this
  have g3 : sm (fun i => (lw i - v) * (if lp i = k then 1 else 0)) n = sm (fun i => lw i * (if lp i = k then 1 else 0)) n - v * sm (fun i => if lp i = k then 1 else 0) n := by
    rw [← sm_mul]
    have := sm_add (fun i => (lw i - v) * (if lp i = k then 1 else 0)) (fun i => v * (if lp i = k then 1 else 0)) n
    have e : sm (fun i => (lw i - v) * (if lp i = k then 1 else 0) + v * (if lp i = k then 1 else 0)) n = sm (fun i => lw i * (if lp i = k then 1 else 0)) n := sm_congr (fun i _ => by rw [Int.sub_mul]; omega)
    omega
  have g4 : sm (fun i => (iw i - v) * (if ip i = k then 1 else 0)) (n - 2) = sm (fun i => iw i * (if ip i = k then 1 else 0)) (n - 2) - v * sm (fun i => if ip i = k then 1 else 0) (n - 2) := by
    rw [← sm_mul]
    have := sm_add (fun i => (iw i - v) * (if ip i = k then 1 else 0)) (fun i => v * (if ip i = k then 1 else 0)) (n - 2)
    have e : sm (fun i => (iw i - v) * (if ip i = k then 1 else 0) + v * (if ip i = k then 1 else 0)) (n - 2) = sm (fun i => iw i * (if ip i = k then 1 else 0)) (n - 2) := sm_congr (fun i _ => by rw [Int.sub_mul]; omega)
    omega
  have g5 : v * sm (fun i => if lp i = k then 1 else 0) n + v * sm (fun i => if ip i = k then 1 else 0) (n - 2) = 2 * v := by
    rw [← Int.mul_add, hc]; omega
  omega

/-- A node weighs two of its lightest child or more. -/
theorem two_kids (h : TQ n lw iw lp ip (n - 1) n (n - 2)) {k : Nat} {v : Int} (hk2 : k < n - 1) (h1 : ∀ i, i < n → v ≤ lw i) (h2 : ∀ i, i < n - 2 → v ≤ iw i) : 2 * v ≤ iw k := by
  have hs := h.sums (fun x => if x = k then 1 else 0)
  have hc := h.cnts (fun x => if x = k then 1 else 0)
  have one : ∀ (f : Nat → Int) m, m ≤ n - 1 → sm (fun x => f x * (if x = k then 1 else 0)) m = if k < m then f k else 0 := by
    intro f m hm
    induction m with
    | zero => rfl
    | succ m ih =>
      rw [sm_succ, ih (by omega)]
      by_cases e : m = k
      · subst e; rw [if_neg (by omega), if_pos rfl, if_pos (by omega)]; omega
      · rw [if_neg e]
        by_cases e4 : k < m
        · rw [if_pos e4, if_pos (by omega)]; omega
        · rw [if_neg e4, if_neg (by omega)]; omega
  rw [one iw (n - 1) (Nat.le_refl _), if_pos hk2] at hs
  have o2 : sm (fun x => 2 * (if x = k then 1 else 0)) (n - 1) = 2 := by
    rw [one (fun _ => 2) (n - 1) (Nat.le_refl _), if_pos hk2]
  rw [o2] at hc
  have g1 : v * sm (fun i => if lp i = k then 1 else 0) n ≤ sm (fun i => lw i * (if lp i = k then 1 else 0)) n := by
    rw [← sm_mul]
    exact sm_le (fun i hi => by
      by_cases e : lp i = k
      · have := h1 i hi; simp only [if_pos e]; omega
      · simp only [if_neg e]; simp)
  have g2 : v * sm (fun i => if ip i = k then 1 else 0) (n - 2) ≤ sm (fun i => iw i * (if ip i = k then 1 else 0)) (n - 2) := by
    rw [← sm_mul]
    exact sm_le (fun i hi => by
      by_cases e : ip i = k
      · have := h2 i hi; simp only [if_pos e]; omega
      · simp only [if_neg e]; simp)
  have g5 : v * sm (fun i => if lp i = k then 1 else 0) n + v * sm (fun i => if ip i = k then 1 else 0) (n - 2) = 2 * v := by
    rw [← Int.mul_add, hc]; omega
  omega

def fib : Nat → Int
  | 0 => 0
  | 1 => 1
  | k + 2 => fib (k + 1) + fib k
theorem fib_ss (k : Nat) : fib (k + 2) = fib (k + 1) + fib k := rfl
theorem fib_nonneg : ∀ k, 0 ≤ fib k ∧ 0 ≤ fib (k + 1) := by
  intro k
  induction k with
  | zero => decide
  | succ k ih => refine ⟨ih.2, ?_⟩; rw [fib_ss]; omega
theorem fib_mono {i j : Nat} (hi : 1 ≤ i) (h : i ≤ j) : fib i ≤ fib j := by
  induction j with
  | zero => omega
  | succ j ih =>
    by_cases e : i = j + 1
    · subst e; exact Int.le_refl _
    · have h1 := ih (by omega)
      obtain ⟨m, rfl⟩ : ∃ m, j = m + 1 := ⟨j - 1, by omega⟩
      rw [fib_ss]
      have := (fib_nonneg m).1
      omega

/-- j an inner node e steps below the root; every child of a node above j weighs v or more: .. -/
theorem climb (h : TQ n lw iw lp ip (n - 1) n (n - 2)) (hd : Dep n ip d) : ∀ e j v, j ≤ n - 2 → d j = e →
    (∀ i k, i < n → lp i = k → j < k → v ≤ lw i) → (∀ i k, i < n - 2 → ip i = k → j < k → v ≤ iw i) → fib (e + 1) * iw j + fib e * v ≤ iw (n - 2) := by
  intro e
  induction e with
  | zero =>
    intro j v hj hde _ _
    have : j = n - 2 := by
      by_cases e : j = n - 2
      · exact e
      · have := hd.node j (by omega); omega
    subst this
    simp [fib]
  | succ e ih =>
    intro j v hj hde h1 h2
    have hj2 : j < n - 2 := by
      by_cases e' : j = n - 2
      · subst e'; rw [hd.root] at hde; omega
      · omega
    have hp := h.ipr j hj2
    have hdn := hd.node j hj2
    have s := sib h hj2 rfl (fun i hi hk => h1 i _ hi hk hp.1) (fun i hi hk => h2 i _ hi hk hp.1)
    have r := ih (ip j) (iw j) (by omega) (by omega)
      (fun i k hi hk hlt => h.oil j i hj2 hi (by omega))
      (fun i k hi hk hlt => by
        have : j ≤ i := by
          rcases Nat.lt_or_ge i j with h' | h'
          · have := h.ipm i j (by omega) hj2; omega
          · exact h'
        exact h.is j i this (by omega))
    have f1 := (fib_nonneg e).2
    have m1 : fib (e + 1) * (iw j + v) ≤ fib (e + 1) * iw (ip j) := Int.mul_le_mul_of_nonneg_left s f1
    rw [Int.mul_add] at m1
    rw [fib_ss, Int.add_mul]
    omega

/-- A leaf D levels deep: all leaves together weigh F(D+2) of the least or more. -/
theorem deep (hn : 2 ≤ n) (h : TQ n lw iw lp ip (n - 1) n (n - 2)) (hd : Dep n ip d) {least : Int} (h0 : 0 ≤ least) (hl : ∀ i, i < n → least ≤ lw i) {i : Nat} (hi : i < n) : fib (dl lp d i + 2) * least ≤ sm lw n := by
  have iwl : ∀ j, j < n - 2 → least ≤ iw j := by
    intro j hj
    have hlw : ∀ i, i < n → (0 : Int) ≤ lw i := h.lpos
    -- an inner node weighs at least two of 0; show least by strong induction on j
    have : ∀ m j, j < m → j < n - 1 → least ≤ iw j := by
      intro m
      induction m with
      | zero => intro j hj _; omega
      | succ m ihm =>
        intro j hj hj2
        -- sums at j: its children are leaves, or inner nodes before it
        have hs := h.sums (fun x => if x = j then 1 else 0)
        have hc := h.cnts (fun x => if x = j then 1 else 0)
        have one : ∀ (f : Nat → Int) m, m ≤ n - 1 → sm (fun x => f x * (if x = j then 1 else 0)) m = if j < m then f j else 0 := by
          intro f m hm
          induction m with
          | zero => rfl
          | succ m ih =>
            rw [sm_succ, ih (by omega)]
            by_cases e : m = j
            · subst e; rw [if_neg (by omega), if_pos rfl, if_pos (by omega)]; omega
            · rw [if_neg e]
              by_cases e4 : j < m
              · rw [if_pos e4, if_pos (by omega)]; omega
              · rw [if_neg e4, if_neg (by omega)]; omega
        rw [one iw (n - 1) (Nat.le_refl _), if_pos hj2] at hs
        have o2 : sm (fun x => 2 * (if x = j then 1 else 0)) (n - 1) = 2 := by
          rw [one (fun _ => 2) (n - 1) (Nat.le_refl _), if_pos hj2]
        rw [o2] at hc
        have g1 : least * sm (fun i => if lp i = j then 1 else 0) n ≤ sm (fun i => lw i * (if lp i = j then 1 else 0)) n := by
          rw [← sm_mul]
          exact sm_le (fun i hi => by
            by_cases e : lp i = j
            · have := hl i hi; simp only [if_pos e]; omega
            · simp only [if_neg e]; simp)
        have g2 : least * sm (fun i => if ip i = j then 1 else 0) (n - 2) ≤ sm (fun i => iw i * (if ip i = j then 1 else 0)) (n - 2) := by
          rw [← sm_mul]
          exact sm_le (fun i hi => by
            by_cases e : ip i = j
            · have h3 := (h.ipr i hi).1
              have := ihm i (by omega) (by omega); simp only [if_pos e]; omega
            · simp only [if_neg e]; simp)
        have g5 : least * sm (fun i => if lp i = j then 1 else 0) n + least * sm (fun i => if ip i = j then 1 else 0) (n - 2) = 2 * least := by
          rw [← Int.mul_add, hc]; omega
        omega
    exact this (j + 1) j (by omega) (by omega)
  have hp := h.lpr i hi
  have c := climb h hd (d (lp i)) (lp i) (lw i) (by omega) rfl
    (fun i' k hi' hk hlt => by
      have : i ≤ i' := by
        rcases Nat.lt_or_ge i' i with h' | h'
        · have := h.lpm i' i (by omega) hi; omega
        · exact h'
      exact h.ls i i' this hi')
    (fun i' k hi' hk hlt => h.oli i i' hi hi' (by omega))
  have t2 := two_kids h (k := lp i) (v := least) hp hl iwl
  have f1 := (fib_nonneg (d (lp i))).2
  have f0 := (fib_nonneg (d (lp i))).1
  have m1 : fib (d (lp i) + 1) * (2 * least) ≤ fib (d (lp i) + 1) * iw (lp i) := Int.mul_le_mul_of_nonneg_left t2 f1
  have m2 : fib (d (lp i)) * least ≤ fib (d (lp i)) * lw i := Int.mul_le_mul_of_nonneg_left (hl i hi) f0
  rw [total hn h] at c
  have e : dl lp d i + 2 = (d (lp i) + 1) + 2 := rfl
  have e2 : fib (d (lp i) + 1) * (2 * least) = fib (d (lp i) + 1) * least + fib (d (lp i) + 1) * least := by
    rw [Int.mul_left_comm]; omega
  rw [e, fib_ss, fib_ss, Int.add_mul, Int.add_mul]
  omega

theorem fib15 : fib 15 = 610 := by decide

/-- Fewer than 610 of the least in all: no leaf is deeper than 12. -/
theorem shallow (hn : 2 ≤ n) (h : TQ n lw iw lp ip (n - 1) n (n - 2)) (hd : Dep n ip d) {least : Int} (h0 : 1 ≤ least) (hl : ∀ i, i < n → least ≤ lw i) (ht : sm lw n < 610 * least) {i : Nat} (hi : i < n) : dl lp d i ≤ 12 := by
  rcases Nat.lt_or_ge 12 (dl lp d i) with h' | h'
  · exfalso
    have d1 := deep hn h hd (by omega) hl hi
    have d2 : fib 15 ≤ fib (dl lp d i + 2) := fib_mono (by omega) (by omega)
    rw [fib15] at d2
    have d3 : 610 * least ≤ fib (dl lp d i + 2) * least := Int.mul_le_mul_of_nonneg_right d2 (by omega)
    omega
  · exact h'
end
end Go.Proofs.Qxb6601138a.Hf
