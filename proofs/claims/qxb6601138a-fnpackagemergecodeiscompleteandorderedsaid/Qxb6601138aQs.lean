/-
  PLAIN: THE TWO QUEUES AS A FUNCTION OF THE WEIGHTS. Nothing of Go here.
-/
import Derived.Test.Qxb6601138aLf
namespace Go.Proofs.Qxb6601138a.Hf

/-- The state: weights of the inner nodes, parents of the leaves and of the inner nodes, how many of each are taken. -/
structure QS where
  iw : Nat → Int
  lp : Nat → Nat
  ip : Nat → Nat
  l : Nat
  q : Nat

/-- Is a leaf picked? -/
def isL (n : Nat) (lw : Nat → Int) (t : Nat) (s : QS) : Prop := s.l < n ∧ (s.q = t ∨ lw s.l ≤ s.iw s.q)
def pkS (t : Nat) (s : QS) (b : Bool) : QS :=
  if b = true then { s with lp := upd s.lp s.l t, l := s.l + 1 } else { s with ip := upd s.ip s.q t, q := s.q + 1 }
def pkW (lw : Nat → Int) (s : QS) (b : Bool) : Int := if b = true then lw s.l else s.iw s.q
/-- Which: the leaf, if b. -/
def pb (n : Nat) (lw : Nat → Int) (t : Nat) (s : QS) : Bool := decide (s.l < n ∧ (s.q = t ∨ lw s.l ≤ s.iw s.q))
def pk1 (n : Nat) (lw : Nat → Int) (t : Nat) (s : QS) : QS := pkS t s (pb n lw t s)
def wk1 (n : Nat) (lw : Nat → Int) (t : Nat) (s : QS) : Int := pkW lw s (pb n lw t s)
def stepQ (n : Nat) (lw : Nat → Int) (t : Nat) (s : QS) : QS :=
  { pk1 n lw t (pk1 n lw t s) with iw := upd s.iw t (wk1 n lw t s + wk1 n lw t (pk1 n lw t s)) }
def qs (n : Nat) (lw : Nat → Int) : Nat → QS
  | 0 => ⟨fun _ => 0, fun _ => 0, fun _ => 0, 0, 0⟩
  | t + 1 => stepQ n lw t (qs n lw t)

def TQs (n : Nat) (lw : Nat → Int) (t : Nat) (s : QS) : Prop := TQ n lw s.iw s.lp s.ip t s.l s.q ∧ TL n lw s.iw t s.l s.q
def THs (n : Nat) (lw : Nat → Int) (t : Nat) (s : QS) (c : Nat) (x : Int) : Prop := TH n lw s.iw s.lp s.ip t s.l s.q c x

theorem pk1_iw (n : Nat) (lw : Nat → Int) (t : Nat) (s : QS) : (pk1 n lw t s).iw = s.iw := by
  unfold pk1 pkS; split <;> rfl

theorem THs.pick {n t c : Nat} {lw : Nat → Int} {s : QS} {x : Int} (h : THs n lw t s c x) (hc : c < 2) : THs n lw t (pk1 n lw t s) (c + 1) (x + wk1 n lw t s) := by
  by_cases hb : s.l < n ∧ (s.q = t ∨ lw s.l ≤ s.iw s.q)
  · have e : pb n lw t s = true := decide_eq_true hb
    unfold pk1 wk1
    rw [e]
    exact TH.leaf h hc hb.1 hb.2
  · have e : pb n lw t s = false := decide_eq_false hb
    unfold pk1 wk1
    rw [e]
    have hl := TH.left h hc
    have hln := TH.ln h
    have hq := TH.q1 h
    have hq2 : s.q < t := by
      rcases hl with h1 | h1
      · rcases Nat.lt_or_ge s.q t with h2 | h2
        · exact h2
        · exact absurd ⟨h1, Or.inl (by omega)⟩ hb
      · exact h1
    refine TH.inner h hc hq2 ?_
    by_cases e2 : s.l = n
    · exact Or.inl e2
    · right
      rcases Classical.em (s.iw s.q < lw s.l) with h2 | h2
      · exact h2
      · exact absurd ⟨by omega, Or.inr (by omega)⟩ hb

theorem qs_TQ {n : Nat} {lw : Nat → Int} (hn : 1 ≤ n) (ls : ∀ i j, i ≤ j → j < n → lw i ≤ lw j) (lpos : ∀ i, i < n → 0 ≤ lw i) : ∀ t, t + 1 ≤ n → TQs n lw t (qs n lw t) := by
  intro t
  induction t with
  | zero => intro _; exact ⟨TQ.start hn _ _ _ ls lpos, ⟨fun h => by omega, fun h => by omega⟩⟩
  | succ t ih =>
    intro ht
    have h := ih (by omega)
    have h0 : THs n lw t (qs n lw t) 0 0 := h.1.half h.2 (by omega)
    have h2 := (h0.pick (by omega)).pick (by omega)
    have e : (pk1 n lw t (pk1 n lw t (qs n lw t))).iw = (qs n lw t).iw := by rw [pk1_iw, pk1_iw]
    obtain ⟨m1, m2⟩ := TH.made h2
    rw [e] at m1 m2
    have ex : (0 : Int) + wk1 n lw t (qs n lw t) + wk1 n lw t (pk1 n lw t (qs n lw t)) = wk1 n lw t (qs n lw t) + wk1 n lw t (pk1 n lw t (qs n lw t)) := by omega
    rw [ex] at m1 m2
    exact ⟨m1, m2⟩

theorem qs_half {n t : Nat} {lw : Nat → Int} (hn : 1 ≤ n) (ls : ∀ i j, i ≤ j → j < n → lw i ≤ lw j) (lpos : ∀ i, i < n → 0 ≤ lw i) (ht : t + 2 ≤ n) :
    THs n lw t (qs n lw t) 0 0 ∧ THs n lw t (pk1 n lw t (qs n lw t)) 1 (wk1 n lw t (qs n lw t)) := by
  have h := qs_TQ hn ls lpos t (by omega)
  have h0 : THs n lw t (qs n lw t) 0 0 := h.1.half h.2 ht
  refine ⟨h0, ?_⟩
  have h1 := h0.pick (by omega)
  rwa [Int.zero_add] at h1

/-- At the end. -/
theorem qs_fin {n : Nat} {lw : Nat → Int} (hn : 2 ≤ n) (ls : ∀ i j, i ≤ j → j < n → lw i ≤ lw j) (lpos : ∀ i, i < n → 0 ≤ lw i) :
    (qs n lw (n - 1)).l = n ∧ (qs n lw (n - 1)).q = n - 2 ∧ TQ n lw (qs n lw (n - 1)).iw (qs n lw (n - 1)).lp (qs n lw (n - 1)).ip (n - 1) n (n - 2) := by
  have h := (qs_TQ (by omega) ls lpos (n - 1) (by omega)).1
  obtain ⟨e1, e2⟩ := h.fin hn
  refine ⟨e1, e2, ?_⟩
  rw [e1, e2] at h
  exact h

/-- What is left weighs no more than all. -/
theorem TH.bnd {n : Nat} {lw iw : Nat → Int} {lp ip : Nat → Nat} {t l q c : Nat} {x : Int} (h : TH n lw iw lp ip t l q c x) : (∀ j, j < n → lw j ≤ sm lw n) ∧ (∀ j, j < t → iw j ≤ sm lw n) ∧ x ≤ sm lw n := by
  have s := h.sums
  -- every inner node weighs no more than all leaves: by its children, which lie before it
  have mono : ∀ a b, a ≤ b → b ≤ n → sm lw a ≤ sm lw b := by
    intro a b hab hb
    induction b with
    | zero => have : a = 0 := by omega
              subst this; exact Int.le_refl _
    | succ b ih =>
      by_cases e : a = b + 1
      · subst e; exact Int.le_refl _
      · rw [sm_succ]; have := ih (by omega) (by omega); have := h.lpos b (by omega); omega
  have hl := mono l n h.ln (Nat.le_refl _)
  -- up to j: what was taken into nodes 0..j
  have key : ∀ j, j ≤ t → ∀ y : Int, y = (if j < t then iw j else x) → y ≤ sm lw n := by
    intro j hj y hy
    -- g: 1 on nodes up to j
    have e := s (fun k => if k ≤ j then 1 else 0)
    have i1 : sm (fun i => lw i * (if lp i ≤ j then 1 else 0)) l ≤ sm lw l := sm_le (fun i hi => by
      have := h.lpos i (by have := h.ln; omega)
      split
      · omega
      · simp; exact this)
    -- inner nodes taken into nodes up to j lie before j
    have i2 : sm (fun i => iw i * (if ip i ≤ j then 1 else 0)) q ≤ sm (fun k => iw k * (if k < j then 1 else 0)) q := sm_le (fun i hi => by
      have h1 := h.ipos i (by have := h.q1; omega)
      have h2 := (h.ipr i hi).1
      by_cases e1 : ip i ≤ j
      · rw [if_pos e1, if_pos (by omega)]; omega
      · rw [if_neg e1]
        split
        · omega
        · simp)
    have i3 : sm (fun k => iw k * (if k < j then 1 else 0)) q ≤ sm (fun k => iw k * (if k < j then 1 else 0)) t := by
      have : ∀ a b, a ≤ b → b ≤ t → sm (fun k => iw k * (if k < j then 1 else 0)) a ≤ sm (fun k => iw k * (if k < j then 1 else 0)) b := by
        intro a b hab hb
        induction b with
        | zero => have : a = 0 := by omega
                  subst this; exact Int.le_refl _
        | succ b ih =>
          by_cases e : a = b + 1
          · subst e; exact Int.le_refl _
          · rw [sm_succ]
            have := ih (by omega) (by omega)
            have h1 := h.ipos b (by omega)
            have : 0 ≤ iw b * (if b < j then 1 else 0) := by
              split
              · omega
              · simp
            omega
      exact this q t h.q1 (Nat.le_refl _)
    by_cases hjt : j < t
    · rw [if_pos hjt] at hy
      have i4 : sm (fun k => iw k * (if k ≤ j then 1 else 0)) t = sm (fun k => iw k * (if k < j then 1 else 0)) t + iw j := by
        have : ∀ m, m ≤ t → sm (fun k => iw k * (if k ≤ j then 1 else 0)) m = sm (fun k => iw k * (if k < j then 1 else 0)) m + (if j < m then iw j else 0) := by
          intro m hm
          induction m with
          | zero => rfl
          | succ m ih =>
            rw [sm_succ, sm_succ, ih (by omega)]
            rcases Nat.lt_trichotomy m j with e1 | e1 | e1
            · have a1 : (if m ≤ j then (1 : Int) else 0) = 1 := if_pos (by omega)
              have a2 : (if m < j then (1 : Int) else 0) = 1 := if_pos e1
              have a3 : (if j < m then iw j else 0) = 0 := if_neg (by omega)
              have a4 : (if j < m + 1 then iw j else 0) = 0 := if_neg (by omega)
              rw [a1, a2, a3, a4]; omega
            · have a1 : (if m ≤ j then (1 : Int) else 0) = 1 := if_pos (by omega)
              have a2 : (if m < j then (1 : Int) else 0) = 0 := if_neg (by omega)
              have a3 : (if j < m then iw j else 0) = 0 := if_neg (by omega)
              have a4 : (if j < m + 1 then iw j else 0) = iw j := if_pos (by omega)
              rw [a1, a2, a3, a4, e1]; omega
            · have a1 : (if m ≤ j then (1 : Int) else 0) = 0 := if_neg (by omega)
              have a2 : (if m < j then (1 : Int) else 0) = 0 := if_neg (by omega)
              have a3 : (if j < m then iw j else 0) = iw j := if_pos (by omega)
              have a4 : (if j < m + 1 then iw j else 0) = iw j := if_pos (by omega)
              rw [a1, a2, a3, a4]; omega
        rw [this t (Nat.le_refl _), if_pos hjt]
      have e' : sm (fun i => lw i * (if lp i ≤ j then 1 else 0)) l + sm (fun i => iw i * (if ip i ≤ j then 1 else 0)) q = sm (fun k => iw k * (if k ≤ j then 1 else 0)) t + x * (if t ≤ j then 1 else 0) := e
      rw [if_neg (by omega)] at e'
      omega
    · have hjt2 : j = t := by omega
      subst hjt2
      rw [if_neg (Nat.lt_irrefl _)] at hy
      have e' : sm (fun i => lw i * (if lp i ≤ j then 1 else 0)) l + sm (fun i => iw i * (if ip i ≤ j then 1 else 0)) q = sm (fun k => iw k * (if k ≤ j then 1 else 0)) j + x * (if j ≤ j then 1 else 0) := e
      rw [if_pos (Nat.le_refl _)] at e'
      have i5 : sm (fun k => iw k * (if k ≤ j then 1 else 0)) j = sm (fun k => iw k * (if k < j then 1 else 0)) j := sm_congr (fun k hk => by rw [if_pos (by omega), if_pos hk])
      omega
  refine ⟨fun j hj => sm_term h.lpos hj, fun j hj => key j (by omega) _ (by rw [if_pos hj]), key t (Nat.le_refl _) _ (by rw [if_neg (Nat.lt_irrefl _)])⟩
end Go.Proofs.Qxb6601138a.Hf
