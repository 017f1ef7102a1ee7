/-
  PLAIN: PACKAGE-MERGE: the levels, and Kraft's sum going down them. Nothing of Go here.
-/
import Derived.Test.Qxb6601138aMp
import Derived.Test.Qxb6601138aKp
namespace Go.Proofs.Qxb6601138a.Hf
set_option linter.unusedVariables false

theorem sm_updl {f : Nat → Int} {m : Nat} {x : Int} : ∀ {T : Nat}, T ≤ m → sm (upd f m x) T = sm f T := by
  intro T
  induction T with
  | zero => intro _; rfl
  | succ T ih => intro h; rw [sm_succ, sm_succ, ih (by omega), upd_ne (by omega)]
/-- The weight of pair j. -/
def pwt (v : Nat → Int) (j : Nat) : Int := v (2 * j) + v (2 * j + 1)
theorem sm_pwt (v : Nat → Int) : ∀ p, sm (pwt v) p = sm v (2 * p) := by
  intro p
  induction p with
  | zero => rfl
  | succ p ih => rw [sm_succ, ih, show 2 * (p + 1) = 2 * p + 1 + 1 by omega, sm_succ, sm_succ]; unfold pwt; omega
theorem sm_mono' {f : Nat → Int} {a b : Nat} (hab : a ≤ b) (h : ∀ i, i < b → 0 ≤ f i) : sm f a ≤ sm f b := by
  induction b with
  | zero => obtain rfl : a = 0 := by omega
            exact Int.le_refl _
  | succ b ih =>
    by_cases e : a = b + 1
    · subst e; exact Int.le_refl _
    · rw [sm_succ]; have := ih (by omega) (fun i hi => h i (by omega)); have := h b (by omega); omega
/-- The sum of a list on its way. -/
def MSum (lw pw : Nat → Int) (s : MS) : Prop := sm s.v (s.i + s.j) = sm lw s.i + sm pw s.j
theorem MSum.leaf {lw pw : Nat → Int} {s : MS} (h : MSum lw pw s) : MSum lw pw (putL lw s) := by
  show sm (upd s.v (s.i + s.j) (lw s.i)) (s.i + 1 + s.j) = sm lw (s.i + 1) + sm pw s.j
  rw [show s.i + 1 + s.j = s.i + s.j + 1 by omega, sm_succ, sm_updl (Nat.le_refl _), upd_same, h, sm_succ]; omega
theorem MSum.pair {lw pw : Nat → Int} {s : MS} (h : MSum lw pw s) : MSum lw pw (putP pw s) := by
  show sm (upd s.v (s.i + s.j) (pw s.j)) (s.i + (s.j + 1)) = sm lw s.i + sm pw (s.j + 1)
  rw [show s.i + (s.j + 1) = s.i + s.j + 1 by omega, sm_succ, sm_updl (Nat.le_refl _), upd_same, h, sm_succ]; omega

/-- A level's list. -/
structure LV (n : Nat) (lw : Nat → Int) (sz : Nat) (v : Nat → Int) (f : Nat → Bool) : Prop where
  srt : ∀ a b, a ≤ b → b < sz → v a ≤ v b
  pos : ∀ a, a < sz → 0 ≤ v a
  ctn : ∀ T, T ≤ sz → ct f T ≤ n
  lv : ∀ T, T ≤ sz → 0 < ct f T → lw (ct f T - 1) ≤ v (T - 1)
/-- .. and the one below it. -/
structure LK (n : Nat) (lw : Nat → Int) (sz : Nat) (f : Nat → Bool) (sz' : Nat) (v' : Nat → Int) : Prop where
  size : sz = n + sz' / 2
  pcb : ∀ T, T ≤ sz → T - ct f T ≤ sz' / 2
  pc : ∀ T, T ≤ sz → ct f T < n → 0 < T - ct f T → pwt v' (T - ct f T - 1) < lw (ct f T)
section
variable {n : Nat} {lw : Nat → Int}
theorem LV.pws {sz : Nat} {v : Nat → Int} {f : Nat → Bool} (h : LV n lw sz v f) : ∀ a b, a ≤ b → b < sz / 2 → pwt v a ≤ pwt v b := fun a b hab hb => by
  have h1 := h.srt (2 * a) (2 * b) (by omega) (by omega)
  have h2 := h.srt (2 * a + 1) (2 * b + 1) (by omega) (by omega)
  unfold pwt; omega
theorem LV.pwp {sz : Nat} {v : Nat → Int} {f : Nat → Bool} (h : LV n lw sz v f) : ∀ a, a < sz / 2 → 0 ≤ pwt v a := fun a ha => by
  have h1 := h.pos (2 * a) (by omega)
  have h2 := h.pos (2 * a + 1) (by omega)
  unfold pwt; omega
theorem ct_true : ∀ T, ct (fun _ => true) T = T := by
  intro T
  induction T with
  | zero => rfl
  | succ T ih => rw [ct_succ, ih]; rfl
theorem LV.base (ls : ∀ a b, a ≤ b → b < n → lw a ≤ lw b) (lpos : ∀ a, a < n → 0 ≤ lw a) : LV n lw n lw (fun _ => true) where
  srt := ls
  pos := lpos
  ctn T h := by rw [ct_true]; exact h
  lv T h h2 := by rw [ct_true]; exact Int.le_refl _
theorem MI.done {sz' : Nat} {v' : Nat → Int} {s : MS} (h : MI n lw (sz' / 2) (pwt v') s) (e1 : s.i = n) (e2 : s.j = sz' / 2) : LV n lw (n + sz' / 2) s.v s.f ∧ LK n lw (n + sz' / 2) s.f sz' v' := by
  have e : s.i + s.j = n + sz' / 2 := by rw [e1, e2]
  refine ⟨⟨?_, ?_, ?_, ?_⟩, ⟨rfl, ?_, ?_⟩⟩
  · rw [← e]; exact h.srt
  · rw [← e]; exact h.pos
  · rw [← e]; exact fun T hT => by rw [← e1]; exact (h.cb T hT).1
  · rw [← e]; exact h.lv
  · rw [← e]; exact fun T hT => by rw [← e2]; exact (h.cb T hT).2
  · rw [← e]; exact h.pc
/-- Fewer leaves are taken further down. -/
theorem taken_le {sz sz' T : Nat} {v v' : Nat → Int} {f f' : Nat → Bool} (ls : ∀ a b, a ≤ b → b < n → lw a ≤ lw b) (h : LV n lw sz v f) (k : LK n lw sz f sz' v') (h' : LV n lw sz' v' f') (hT : T ≤ sz) : 2 * (T - ct f T) ≤ sz' ∧ ct f' (2 * (T - ct f T)) ≤ ct f T := by
  have hp := k.pcb T hT
  have hb : 2 * (T - ct f T) ≤ sz' := by omega
  refine ⟨hb, ?_⟩
  rcases Nat.lt_or_ge (ct f T) (ct f' (2 * (T - ct f T))) with hlt | hge
  · have hn := h'.ctn _ hb
    have hp0 : 0 < T - ct f T := by
      rcases Nat.eq_zero_or_pos (T - ct f T) with e | e
      · rw [e] at hlt; exact absurd hlt (by show ¬ _ < 0; omega)
      · exact e
    have h1 := k.pc T hT (by omega) hp0
    have h2 := h'.lv _ hb (by omega)
    have h3 := ls (ct f T) (ct f' (2 * (T - ct f T)) - 1) (by omega) (by omega)
    have h4 := h'.pos (2 * (T - ct f T - 1)) (by omega)
    unfold pwt at h1
    rw [show 2 * (T - ct f T) - 1 = 2 * (T - ct f T - 1) + 1 by omega] at h2
    omega
  · exact hge
end

/-- The lengths after k levels: x leaves may still grow, T items are to be taken. -/
structure DN (n K k x T : Nat) (l : Nat → Nat) : Prop where
  xn : x ≤ n
  top : ∀ i, i < x → l i = k
  le : ∀ i, i < n → l i ≤ k
  anti : ∀ i j, i ≤ j → j < n → l j ≤ l i
  kr : 2 * sm (fun i => ((2 ^ (K - l i) : Nat) : Int)) n = ((2 ^ (K + 1) : Nat) : Int) + (T : Int) * ((2 ^ (K - k) : Nat) : Int)
theorem DN.start {n K : Nat} (hn : 2 ≤ n) : DN n K 0 n (2 * n - 2) (fun _ => 0) where
  xn := Nat.le_refl _
  top _ _ := rfl
  le _ _ := Nat.le_refl _
  anti _ _ _ _ := Nat.le_refl _
  kr := by
    show 2 * sm (fun _ => ((2 ^ (K - 0) : Nat) : Int)) n = _
    rw [sm_const, Nat.sub_zero, Nat.pow_succ, Int.natCast_mul]
    have e : ((2 * n - 2 : Nat) : Int) = 2 * (n : Int) - 2 := by omega
    rw [e, Int.sub_mul, Int.mul_comm ((2 ^ K : Nat) : Int) (n : Int), Int.mul_assoc]
    show _ = ((2 ^ K : Nat) : Int) * 2 + _
    omega
/-- One more level. -/
def grow (l : Nat → Nat) (t : Nat) : Nat → Nat := fun i => if i < t then l i + 1 else l i
theorem DN.step {n K k x T t : Nat} {l : Nat → Nat} (h : DN n K k x T l) (hk : k < K) (ht : t ≤ x) (htT : t ≤ T) : DN n K (k + 1) t (2 * (T - t)) (grow l t) where
  xn := Nat.le_trans ht h.xn
  top i hi := by unfold grow; rw [if_pos hi, h.top i (by omega)]
  le i hi := by unfold grow; have := h.le i hi; split <;> omega
  anti i j hij hj := by
    unfold grow
    have h1 := h.anti i j hij hj
    by_cases e1 : j < t
    · rw [if_pos e1, if_pos (by omega)]; omega
    · rw [if_neg e1]; split <;> omega
  kr := by
    have hx := h.xn
    -- the sum falls by t * 2^(K-k-1)
    have e1 : ∀ m, m ≤ n → sm (fun i => ((2 ^ (K - grow l t i) : Nat) : Int)) m = sm (fun i => ((2 ^ (K - l i) : Nat) : Int)) m - ((min t m : Nat) : Int) * ((2 ^ (K - k - 1) : Nat) : Int) := by
      intro m hm
      induction m with
      | zero => show (0 : Int) = 0 - ((min t 0 : Nat) : Int) * _; rw [Nat.min_zero]; simp
      | succ m ih =>
        rw [sm_succ, sm_succ, ih (by omega)]
        by_cases e : m < t
        · have a1 : grow l t m = k + 1 := by unfold grow; rw [if_pos e, h.top m (by omega)]
          have a2 : l m = k := h.top m (by omega)
          rw [a1, a2, show min t (m + 1) = m + 1 by omega, show min t m = m by omega, show K - (k + 1) = K - k - 1 by omega]
          have a3 : ((2 ^ (K - k) : Nat) : Int) = ((2 ^ (K - k - 1) : Nat) : Int) * 2 := by
            rw [show K - k = K - k - 1 + 1 by omega, Nat.pow_succ, Int.natCast_mul]; rfl
          rw [a3, Int.natCast_add, Int.add_mul]
          show _ + ((2 ^ (K - k - 1) : Nat) : Int) = _ - (_ + 1 * _)
          omega
        · have a1 : grow l t m = l m := by unfold grow; rw [if_neg e]
          rw [a1, show min t (m + 1) = t by omega, show min t m = t by omega]; omega
    rw [e1 n (Nat.le_refl _), show min t n = t by omega, Int.mul_sub, h.kr]
    have a3 : ((2 ^ (K - k) : Nat) : Int) = ((2 ^ (K - k - 1) : Nat) : Int) * 2 := by
      rw [show K - k = K - k - 1 + 1 by omega, Nat.pow_succ, Int.natCast_mul]; rfl
    rw [show K - (k + 1) = K - k - 1 by omega, a3]
    have e2 : ((2 * (T - t) : Nat) : Int) = 2 * ((T : Int) - (t : Int)) := by omega
    rw [e2]
    have e3 : (T : Int) * (((2 ^ (K - k - 1) : Nat) : Int) * 2) = 2 * ((T : Int) * ((2 ^ (K - k - 1) : Nat) : Int)) := by
      rw [← Int.mul_assoc, Int.mul_comm]
    rw [e3, Int.mul_assoc 2, Int.sub_mul, Int.mul_sub]
    omega
/-- At the end. -/
theorem DN.fin {n K k x : Nat} {l : Nat → Nat} (h : DN n K k x 0 l) : sm (fun i => ((2 ^ (K - l i) : Nat) : Int)) n = ((2 ^ K : Nat) : Int) := by
  have e := h.kr
  rw [Nat.pow_succ, Int.natCast_mul] at e
  have e2 : (((0 : Nat) : Int)) * ((2 ^ (K - k) : Nat) : Int) = 0 := by simp
  rw [e2] at e
  have e3 : ((2 : Nat) : Int) = 2 := rfl
  omega
theorem kraft_one_pos {n K : Nat} {l : Nat → Nat} (hn : 2 ≤ n) (h : sm (fun i => ((2 ^ (K - l i) : Nat) : Int)) n = ((2 ^ K : Nat) : Int)) : ∀ i, i < n → 1 ≤ l i := by
  intro i hi
  rcases Nat.eq_zero_or_pos (l i) with e | e
  · -- its own share is the whole; another has a share, too
    have other : ∃ j, j < n ∧ j ≠ i := by
      by_cases e0 : i = 0
      · exact ⟨1, by omega, by omega⟩
      · exact ⟨0, by omega, fun e => e0 e.symm⟩
    obtain ⟨j, hj, hji⟩ := other
    have hs := sm_split (f := fun x => ((2 ^ (K - l x) : Nat) : Int)) (g := fun x => if x = i then ((2 ^ (K - l x) : Nat) : Int) else 0) (h := fun x => if x = i then 0 else ((2 ^ (K - l x) : Nat) : Int)) (n := n) (fun x _ => by
      show _ = (if x = i then _ else _) + (if x = i then _ else _)
      by_cases e : x = i
      · rw [if_pos e, if_pos e]; omega
      · rw [if_neg e, if_neg e]; omega)
    have h1 : ((2 ^ K : Nat) : Int) ≤ sm (fun x => if x = i then ((2 ^ (K - l x) : Nat) : Int) else 0) n := by
      have := sm_term (f := fun x => if x = i then ((2 ^ (K - l x) : Nat) : Int) else 0) (k := n) (j := i) (fun x _ => by
        show 0 ≤ (if x = i then _ else _)
        split
        · exact Int.natCast_nonneg _
        · omega) hi
      have e4 : (if i = i then ((2 ^ (K - l i) : Nat) : Int) else 0) = ((2 ^ K : Nat) : Int) := by rw [if_pos rfl, e, Nat.sub_zero]
      have this2 : (if i = i then ((2 ^ (K - l i) : Nat) : Int) else 0) ≤ sm (fun x => if x = i then ((2 ^ (K - l x) : Nat) : Int) else 0) n := this
      rw [e4] at this2; exact this2
    have h2 : 1 ≤ sm (fun x => if x = i then 0 else ((2 ^ (K - l x) : Nat) : Int)) n := by
      have := sm_term (f := fun x => if x = i then 0 else ((2 ^ (K - l x) : Nat) : Int)) (k := n) (j := j) (fun x _ => by
        show 0 ≤ (if x = i then _ else _)
        split
        · omega
        · exact Int.natCast_nonneg _) hj
      have e4 : (if j = i then (0 : Int) else ((2 ^ (K - l j) : Nat) : Int)) = ((2 ^ (K - l j) : Nat) : Int) := if_neg hji
      have this2 : (if j = i then (0 : Int) else ((2 ^ (K - l j) : Nat) : Int)) ≤ sm (fun x => if x = i then 0 else ((2 ^ (K - l x) : Nat) : Int)) n := this
      rw [e4] at this2
      have := pow_pos' (K - l j)
      omega
    rw [h] at hs
    omega
  · exact e
end Go.Proofs.Qxb6601138a.Hf
