/-
  PLAIN: the merging in one array: nodes 0 .. n-1 the leaves, n .. the inner nodes. Nothing of Go here.
-/
import Derived.Test.Qxb6600394aGd
namespace Go.Proofs.Qxb6600394a.Hf

theorem sm_mono {f : Nat → Int} {a : Nat} : ∀ {b : Nat}, a ≤ b → (∀ i, i < b → 0 ≤ f i) → sm f a ≤ sm f b := by
  intro b
  induction b with
  | zero => intro h _; have : a = 0 := by omega
            subst this; exact Int.le_refl _
  | succ b ih =>
    intro h h0
    by_cases e : a = b + 1
    · subst e; exact Int.le_refl _
    · rw [sm_succ]; have := ih (by omega) (fun i hi => h0 i (by omega)); have := h0 b (by omega); omega

/-- One pick in the array: node v. -/
def Pk (n m : Nat) (wt : Nat → Int) (l r v l' r' : Nat) : Prop :=
  (v = l ∧ l' = l + 1 ∧ r' = r ∧ l < n ∧ (r = m ∨ wt l ≤ wt r)) ∨ (v = r ∧ l' = l ∧ r' = r + 1 ∧ r < m ∧ (l = n ∨ wt r < wt l))

/-- The array's parents are the queues' parents. -/
def PaIs (n : Nat) (pa : Nat → Nat) (lp ip : Nat → Nat) (l q : Nat) : Prop := (∀ i, i < l → pa i = n + lp i) ∧ (∀ k, k < q → pa (n + k) = n + ip k)
def WtIs (n : Nat) (wt lw iw : Nat → Int) (t : Nat) : Prop := (∀ i, i < n → wt i = lw i) ∧ (∀ k, k < t → wt (n + k) = iw k)

theorem TH.pick {n t l q c v l' r' : Nat} {wt lw iw : Nat → Int} {lp ip pa : Nat → Nat} {x : Int} (h : TH n lw iw lp ip t l q c x) (hc : c < 2) (hw : WtIs n wt lw iw t) (hp : PaIs n pa lp ip l q) (p : Pk n (n + t) wt l (n + q) v l' r') :
    ∃ lp' ip' q', r' = n + q' ∧ TH n lw iw lp' ip' t l' q' (c + 1) (x + wt v) ∧ Pick n lw iw t l q l' q' (wt v) ∧ PaIs n (upd pa v (n + t)) lp' ip' l' q' ∧ v < n + t ∧ l ≤ l' ∧ q ≤ q' := by
  rcases p with ⟨rfl, rfl, rfl, hl, hm⟩ | ⟨rfl, rfl, rfl, hr, hm⟩
  · have e1 : wt v = lw v := hw.1 v hl
    have hmin : q = t ∨ lw v ≤ iw q := by
      by_cases e : q = t
      · exact Or.inl e
      · right
        have hq : q < t := by have := h.q1; omega
        rcases hm with hm | hm
        · omega
        · rw [e1, hw.2 q hq] at hm; exact hm
    refine ⟨upd lp v t, ip, q, rfl, ?_, Or.inl ⟨hl, hmin, rfl, rfl, e1⟩, ⟨fun i hi => ?_, fun k hk => ?_⟩, by omega, by omega, by omega⟩
    · rw [e1]; exact h.leaf hc hl hmin
    · by_cases e : i = v
      · subst e; rw [upd_same, upd_same]
      · rw [upd_ne e, upd_ne e]; exact hp.1 i (by omega)
    · rw [upd_ne (by omega)]; exact hp.2 k hk
  · have hq : q < t := by omega
    have e1 : wt (n + q) = iw q := hw.2 q hq
    have hmin : l' = n ∨ iw q < lw l' := by
      rcases hm with hm | hm
      · exact Or.inl hm
      · by_cases e : l' = n
        · exact Or.inl e
        · right
          rw [e1, hw.1 l' (by have := h.ln; omega)] at hm; exact hm
    refine ⟨lp, upd ip q t, q + 1, by omega, ?_, Or.inr ⟨hq, hmin, rfl, rfl, e1⟩, ⟨fun i hi => ?_, fun k hk => ?_⟩, by omega, by omega, by omega⟩
    · rw [e1]; exact h.inner hc hq hmin
    · rw [upd_ne (by have := h.ln; omega)]; exact hp.1 i hi
    · by_cases e : k = q
      · subst e; rw [upd_same, upd_same]
      · rw [upd_ne (by omega), upd_ne e]; exact hp.2 k (by omega)

/-- t inner nodes made. -/
def R4 (n : Nat) (lw wt : Nat → Int) (pa : Nat → Nat) (t l q : Nat) : Prop :=
  ∃ iw lp ip, TQ n lw iw lp ip t l q ∧ TL n lw iw t l q ∧ HI n lw iw t l q ∧ WtIs n wt lw iw t ∧ PaIs n pa lp ip l q

theorem R4.start {n : Nat} {lw wt : Nat → Int} (hn : 1 ≤ n) (ls : ∀ i j, i ≤ j → j < n → lw i ≤ lw j) (lpos : ∀ i, i < n → 0 ≤ lw i) (hw : ∀ i, i < n → wt i = lw i) (pa : Nat → Nat) : R4 n lw wt pa 0 0 0 :=
  ⟨lw, fun _ => 0, fun _ => 0, TQ.start hn _ _ _ ls lpos, ⟨fun h => by omega, fun h => by omega⟩, HI.start _ _ _, ⟨hw, fun k hk => by omega⟩, ⟨fun i hi => by omega, fun i hi => by omega⟩⟩

/-- What is left weighs no more than all. -/
theorem R4.bound {n t l q : Nat} {lw wt : Nat → Int} {pa : Nat → Nat} (h : R4 n lw wt pa t l q) : (∀ j, l ≤ j → j < n → 0 ≤ wt j ∧ wt j ≤ sm lw n) ∧ (∀ j, q ≤ j → j < t → 0 ≤ wt (n + j) ∧ wt (n + j) ≤ sm lw n) := by
  obtain ⟨iw, lp, ip, hq, _, _, hw, _⟩ := h
  constructor
  · intro j _ h2
    rw [hw.1 j h2]
    exact ⟨hq.lpos j h2, sm_term (fun i hi => hq.lpos i hi) h2⟩
  · intro j h1 h2
    rw [hw.2 j h2]
    refine ⟨hq.ipos j h2, ?_⟩
    have hs := hq.sums (fun _ => 1)
    simp only [Int.mul_one] at hs
    have split : ∀ (f : Nat → Int) (a b : Nat), a ≤ b → (∀ i, i < b → 0 ≤ f i) → ∀ j, a ≤ j → j < b → f j + sm f a ≤ sm f b := by
      intro f a b hab h0 j hj1 hj2
      induction b with
      | zero => omega
      | succ b ih =>
        rw [sm_succ]
        by_cases e : j = b
        · subst e
          have := sm_mono (f := f) (a := a) (b := j) (by omega) (fun i hi => h0 i (by omega))
          omega
        · have := ih (by omega) (fun i hi => h0 i (by omega)) (by omega)
          have := h0 b (by omega); omega
    have s1 := split iw q t hq.q1.1 hq.ipos j h1 h2
    have s2 : sm lw l ≤ sm lw n := sm_mono hq.ln hq.lpos
    have e1 : sm (fun i => lw i) l = sm lw l := rfl
    have e2 : sm (fun i => iw i) q = sm iw q := rfl
    have e3 : sm (fun k => iw k) t = sm iw t := rfl
    omega

theorem R4.step {n t l q v1 l1 r1 v2 l2 r2 : Nat} {lw wt : Nat → Int} {pa : Nat → Nat} (h : R4 n lw wt pa t l q) (ht : t + 2 ≤ n) (p1 : Pk n (n + t) wt l (n + q) v1 l1 r1) (p2 : Pk n (n + t) wt l1 r1 v2 l2 r2) :
    ∃ q2, r2 = n + q2 ∧ R4 n lw (upd wt (n + t) (wt v1 + wt v2)) (upd (upd pa v1 (n + t)) v2 (n + t)) (t + 1) l2 q2 := by
  obtain ⟨iw, lp, ip, hq, htl, hi, hw, hp⟩ := h
  obtain ⟨lp1, ip1, q1, rfl, h1, k1, hp1, _, _, _⟩ := (hq.half htl ht).pick (by omega) hw hp p1
  obtain ⟨lp2, ip2, q2, rfl, h2, k2, hp2, _, _, _⟩ := h1.pick (by omega) hw hp1 p2
  obtain ⟨m1, m2⟩ := h2.made
  have ex : (0 : Int) + wt v1 + wt v2 = wt v1 + wt v2 := by omega
  rw [ex] at m1 m2
  refine ⟨q2, rfl, upd iw t (wt v1 + wt v2), lp2, ip2, m1, m2, hi.step ht hq.ls hq.is hq.ln hq.q1.1 k1 k2, ⟨fun i hi => ?_, fun k hk => ?_⟩, hp2⟩
  · rw [upd_ne (by omega)]; exact hw.1 i hi
  · by_cases e : k = t
    · subst e; rw [upd_same, upd_same]
    · rw [upd_ne (by omega), upd_ne e]; exact hw.2 k (by omega)

/-- What is picked weighs no more than all. -/
theorem R4.pkb {n t l q l1 r1 v l2 r2 : Nat} {lw wt : Nat → Int} {pa : Nat → Nat} (h : R4 n lw wt pa t l q) (hl : l ≤ l1) (hr : n + q ≤ r1) (p : Pk n (n + t) wt l1 r1 v l2 r2) : 0 ≤ wt v ∧ wt v ≤ sm lw n := by
  have b := h.bound
  rcases p with ⟨rfl, _, _, h1, _⟩ | ⟨rfl, _, _, h1, _⟩
  · exact b.1 v hl h1
  · obtain ⟨k, rfl⟩ : ∃ k, v = n + k := ⟨v - n, by omega⟩
    exact b.2 k (by omega) (by omega)
theorem Pk.next {n m l r v l' r' : Nat} {wt : Nat → Int} (p : Pk n m wt l r v l' r') : l ≤ l' ∧ r ≤ r' ∧ l' + r' = l + r + 1 ∧ (l ≤ n → l' ≤ n) ∧ (r ≤ m → r' ≤ m) := by
  rcases p with ⟨rfl, rfl, rfl, h1, _⟩ | ⟨rfl, rfl, rfl, h1, _⟩ <;> omega

/-- Which nodes are picked. -/
theorem R4.left {n t l q : Nat} {lw wt : Nat → Int} {pa : Nat → Nat} (h : R4 n lw wt pa t l q) (ht : t + 2 ≤ n) : l ≤ n ∧ q ≤ t ∧ l + q = 2 * t ∧ (l < n ∨ q < t) := by
  obtain ⟨iw, lp, ip, hq, _, _, _, _⟩ := h
  have h1 := hq.ln
  have h2 := hq.q1
  have h3 := hq.cnt
  omega
end Go.Proofs.Qxb6600394a.Hf
