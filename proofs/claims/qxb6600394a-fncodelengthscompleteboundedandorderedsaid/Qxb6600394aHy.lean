import Derived.Test.Qxb6600394aHx
namespace Go.Proofs.Qxb6600394a.Hf
open Go.RowKit Cl
set_option linter.unusedVariables false

def lenOf : Value → Nat | .slice _ n _ => n | _ => 0
theorem le_zero (f : Nat → Int) : ∀ x, x < 1 → f 0 ≤ f x := fun x hx => by
  have : x = 0 := by omega
  subst this; exact Int.le_refl _
/-- The pool in block W. -/
structure Pl (w wr : World) (W n : Nat) (c : Nat → Int) (len : Nat) (f : Nat → Int) (cost : Int) : Prop where
  row : wr.rowIs W 2 n (fun i => .int .i64 (f i))
  bel : Below w.heap.size w wr
  hc : HC n c len f cost
  sum : sm f len ≤ 1073741824
  pos : ∀ i, i < len → 0 ≤ f i
  cb : 0 ≤ cost ∧ cost ≤ 1073741824 * ((n : Int) - (len : Int))
theorem Pl.drewN {w wr : World} {W n : Nat} {c : Nat → Int} {len : Nat} {f : Nat → Int} {cost : Int} (h : Pl w wr W n c len f cost) (k : Nat) : Pl w (wr.drewN k) W n c len f cost :=
  ⟨h.row, ⟨h.bel.os, h.bel.tape, h.bel.output, h.bel.size, h.bel.block⟩, h.hc, h.sum, h.pos, h.cb⟩
theorem Pl.le {w wr : World} {W n : Nat} {c : Nat → Int} {len : Nat} {f : Nat → Int} {cost : Int} (h : Pl w wr W n c len f cost) {i : Nat} (hi : i < len) : f i ≤ 1073741824 := Int.le_trans (sm_term h.pos hi) h.sum

/-- The second least, while it is looked for: -1, or its place. -/
def BRel (f : Nat → Int) (a i : Nat) (bv : Int) : Prop := (bv = -1 ∧ ∀ x, x < i → x = a) ∨ ∃ b : Nat, bv = (b : Int) ∧ b < i ∧ b ≠ a ∧ ∀ x, x < i → x ≠ a → f b ≤ f x
theorem BRel.skip {f : Nat → Int} {a i : Nat} {bv : Int} (h : BRel f a i bv) (e : i = a) : BRel f a (i + 1) bv := by
  rcases h with ⟨h1, h2⟩ | ⟨b, h1, h2, h3, h4⟩
  · exact Or.inl ⟨h1, fun x hx => by
      by_cases e2 : x = i
      · omega
      · exact h2 x (by omega)⟩
  · exact Or.inr ⟨b, h1, by omega, h3, fun x hx hxa => h4 x (by omega) hxa⟩
theorem BRel.first {f : Nat → Int} {a i : Nat} {bv : Int} (h : BRel f a i bv) (hb : bv < 0) (e : ¬ i = a) : BRel f a (i + 1) (i : Int) := by
  rcases h with ⟨h1, h2⟩ | ⟨b, h1, h2, h3, h4⟩
  · exact Or.inr ⟨i, rfl, by omega, e, fun x hx hxa => by
      by_cases e2 : x = i
      · subst e2; exact Int.le_refl _
      · exact absurd (h2 x (by omega)) hxa⟩
  · omega
theorem BRel.take {f : Nat → Int} {a i b : Nat} (h : BRel f a i (b : Int)) (e : ¬ i = a) (hf : f i < f b) : BRel f a (i + 1) (i : Int) := by
  rcases h with ⟨h1, h2⟩ | ⟨b', h1, h2, h3, h4⟩
  · omega
  · have : b' = b := by omega
    subst this
    exact Or.inr ⟨i, rfl, by omega, e, fun x hx hxa => by
      by_cases e2 : x = i
      · subst e2; exact Int.le_refl _
      · have := h4 x (by omega) hxa; omega⟩
theorem BRel.keep {f : Nat → Int} {a i b : Nat} (h : BRel f a i (b : Int)) (hf : ¬ f i < f b) : BRel f a (i + 1) (b : Int) := by
  rcases h with ⟨h1, h2⟩ | ⟨b', h1, h2, h3, h4⟩
  · omega
  · have : b' = b := by omega
    subst this
    exact Or.inr ⟨b', rfl, by omega, h3, fun x hx hxa => by
      by_cases e2 : x = i
      · subst e2; omega
      · exact h4 x (by omega) hxa⟩
theorem BRel.fin {f : Nat → Int} {a i len : Nat} {bv : Int} (h : BRel f a i bv) (hi : len ≤ i) (hl : 1 < len) (ha : a < len) (hi2 : i ≤ len := by omega) : ∃ b : Nat, bv = (b : Int) ∧ b < len ∧ b ≠ a ∧ ∀ x, x < len → x ≠ a → f b ≤ f x := by
  rcases h with ⟨h1, h2⟩ | ⟨b, h1, h2, h3, h4⟩
  · exfalso
    have e0 := h2 0 (by omega)
    have e1 := h2 1 (by omega)
    omega
  · exact ⟨b, h1, by omega, h3, fun x hx hxa => h4 x (by omega) hxa⟩

set_option maxRecDepth 100000 in
set_option maxHeartbeats 4000000 in
theorem huffmanCost_any (w : World) (Bc n : Nat) (c : Nat → Int) (hF : Fit n c) (hC : w.rowIs Bc 3 n (fun i => .int .i64 (c i))) :
    Calls Try.prog 18 #[.slice (some ⟨Bc, 0, none⟩) n n] w fun e w' => (∃ C : Int, e = .returned (.int .i64 C) ∧ Hs (n - 1) (leaves n c) C) ∧ Below w.heap.size w w' := by
  have H : Hid (w.rowIs Bc 3 n (fun i => .int .i64 (c i)) ∧ Fit n c) := ⟨hC, hF⟩
  have hn1 := hF.1
  have hn2 := hF.2.1
  have hlt := hC.lt
  clear hC hF
  have hmk := run_make_row' 45 2 (.int .i64 0) 8 Try.underlying45 info2 rfl .i64 .i64 n (by omega) (by omega)
  go_enter Try.func18, Try.ntmps18
  go_wp2
  clear hmk
  go_loopw [5] (fun i wr => ∃ k : Nat, k ≤ n ∧ i = .int .i64 k ∧ wr.rowIs w.heap.size 2 n (fun j => .int .i64 (if j < k then c j else 0)) ∧ Below w.heap.size w wr) (fun i _ => n - (intOf i).toNat)
  case atStart => exact ⟨0, by omega, rfl, (World.rowIs_made w (.int .i64 0) n 2).congr (fun i _ => by simp), (Below.refl _ _).alloc (Nat.le_refl _) _⟩
  case round =>
    obtain ⟨k, hk, rfl, hrow, hbel⟩ := hrel
    have HR : Hid (wr.rowIs w.heap.size 2 n (fun j => .int .i64 (if j < k then c j else 0)) ∧ Below w.heap.size w wr) := ⟨hrow, hbel⟩
    clear hrow hbel
    by_cases hkn : k < n
    · have f1 : wr.cell? ⟨Bc, k, none⟩ = some (.int .i64 (c k)) := (HR.out.2.cell (p := ⟨Bc, k, none⟩) hlt).trans (H.out.1.cell hkn)
      have f2 := HR.out.1.cell hkn
      have f3 := HR.out.1.frozen k
      simp only [Nat.lt_irrefl, if_false] at f2
      go_wp2
      go_roundw
      case rel =>
        refine ⟨k + 1, by omega, by go_num, (HR.out.1.set k _).congr (fun i hi => ?_), HR.out.2.setCell (by simp) _⟩
        by_cases e : i = k
        · subst e; simp
        · by_cases e2 : i < k
          · simp [e, e2, Nat.lt_succ_of_lt e2]
          · have : ¬ i < k + 1 := by omega
            simp [e, e2, this]
      case measure => simp [intOf]; omega
    · have P0 : Hid (Pl w wr w.heap.size n c n c 0) := by
        refine ⟨HR.out.1.congr (fun i hi => by rw [if_pos (by omega)]), HR.out.2, HC.start (fun i _ => rfl), H.out.2.2.2.2, fun i hi => by have := H.out.2.2.2.1 i hi; omega, by omega, by omega⟩
      clear HR
      go_wp2
      obtain ⟨wo, rfl⟩ : ∃ wo : World, wo = wr := ⟨_, rfl⟩
      go_loopw [4, 6] (fun s t wr => ∃ (len : Nat) (f : Nat → Int) (cost : Int), 1 ≤ len ∧ len ≤ n ∧ s = .slice (some ⟨w.heap.size, 0, none⟩) len n ∧ t = .int .i64 cost ∧ Pl w wr w.heap.size n c len f cost) (fun s _ _ => lenOf s)
      case atStart => exact ⟨n, c, 0, by omega, by omega, rfl, rfl, P0.out⟩
      case round =>
        clear P0
        obtain ⟨len, f, cost, hl1, hl2, rfl, rfl, hp⟩ := hrel
        have P1 : Hid (Pl w wr w.heap.size n c len f cost) := hp
        have cb1 := hp.cb.1
        have cb2 := hp.cb.2
        clear hp
        by_cases hl : 1 < len
        · have b1 : (1 : Int) < (len : Int) := by omega
          go_wp2
          obtain ⟨wo, rfl⟩ : ∃ wo : World, wo = wr := ⟨_, rfl⟩
          go_loopw [7, 8] (fun ra ri wr => ∃ (a i : Nat) (nq : Nat), a < len ∧ 1 ≤ i ∧ i ≤ len ∧ ra = .int .i64 (a : Int) ∧ ri = .int .i64 (i : Int) ∧ wr = wo.drewN nq ∧ ∀ x, x < i → f a ≤ f x) (fun _ ri _ => len - (intOf ri).toNat)
          case atStart => exact ⟨0, 1, 0, by omega, by omega, by omega, rfl, rfl, rfl, le_zero f⟩
          case round =>
            obtain ⟨a, i, nq, ha, hi1, hi2, rfl, rfl, rfl, hmin⟩ := hrel
            have HM : Hid (∀ x, x < i → f a ≤ f x) := hmin
            clear hmin
            by_cases hil : i < len
            · have f1 : wo.cell? ⟨w.heap.size, i, none⟩ = some (.int .i64 (f i)) := P1.out.row.cell (by omega)
              have f2 : wo.cell? ⟨w.heap.size, a, none⟩ = some (.int .i64 (f a)) := P1.out.row.cell (by omega)
              have b2 : (i : Int) < (len : Int) := by omega
              have b3 : (a : Int) < (len : Int) := by omega
              by_cases hfa : f i < f a
              · go_wp2
                go_quiet (fail)
                go_wp2
                go_roundw
                case rel => exact ⟨i, i + 1, _, hil, by omega, by omega, rfl, by go_num, rfl, fun x hx => by
                  by_cases e : x = i
                  · subst e; exact Int.le_refl _
                  · have := HM.out x (by omega); omega⟩
                case measure => simp [intOf]; omega
              · go_wp2
                go_quiet (fail)
                go_wp2
                go_roundw
                case rel => exact ⟨a, i + 1, _, ha, by omega, by omega, rfl, by go_num, rfl, fun x hx => by
                  by_cases e : x = i
                  · subst e; omega
                  · exact HM.out x (by omega)⟩
                case measure => simp [intOf]; omega
            · have HM2 : Hid (∀ x, x < len → f a ≤ f x) := fun x hx => HM.out x (by omega)
              clear HM
              go_wp2
              go_loopw [9, 10] (fun rb ri wr => ∃ (i : Nat) (nq : Nat) (bv : Int), i ≤ len ∧ ri = .int .i64 (i : Int) ∧ rb = .int .i64 bv ∧ wr = wo.drewN nq ∧ BRel f a i bv) (fun _ ri _ => len - (intOf ri).toNat)
              case atStart => exact ⟨0, _, -1, by omega, rfl, rfl, rfl, Or.inl ⟨rfl, fun x hx => by omega⟩⟩
              case round =>
                obtain ⟨i, nq4, bv, hi2, rfl, rfl, rfl, hb⟩ := hrel
                have HB' : Hid (BRel f a i bv) := hb
                clear hb
                by_cases hil : i < len
                · have f1 : wo.cell? ⟨w.heap.size, i, none⟩ = some (.int .i64 (f i)) := P1.out.row.cell (by omega)
                  have b2 : (i : Int) < (len : Int) := by omega
                  by_cases hia : i = a
                  · have hd : ((i : Int) != (a : Int)) = false := by rw [hia]; simp
                    go_wp2
                    go_quiet (fail)
                    go_wp2
                    go_roundw
                    case rel => exact ⟨i + 1, _, bv, by omega, by go_num, rfl, rfl, HB'.out.skip hia⟩
                    case measure => simp [intOf]; omega
                  · have hd : ((i : Int) != (a : Int)) = true := by rw [bne_iff_ne]; omega
                    rcases HB'.out with hb | ⟨b, hb1, hb2, hb3, hb4⟩
                    · have hbv : Hid (BRel f a i bv) := Or.inl hb
                      have hb0 : bv < 0 := by have := hb.1; omega
                      clear hb
                      go_wp2
                      go_quiet (fail)
                      go_wp2
                      go_roundw
                      case rel => exact ⟨i + 1, _, (i : Int), by omega, by go_num, rfl, rfl, hbv.out.first hb0 hia⟩
                      case measure => simp [intOf]; omega
                    · have HBB : Hid (BRel f a i (b : Int)) := Or.inr ⟨b, rfl, hb2, hb3, hb4⟩
                      subst hb1
                      have hb5 : b < len := by omega
                      have hb0 : ¬ (b : Int) < 0 := by omega
                      have b3 : (b : Int) < (len : Int) := by omega
                      have f2 : wo.cell? ⟨w.heap.size, b, none⟩ = some (.int .i64 (f b)) := P1.out.row.cell (by omega)
                      clear hb4 hb3 HB'
                      by_cases hfb : f i < f b
                      · go_wp2
                        go_quiet (fail)
                        go_wp2
                        go_roundw
                        case rel => exact ⟨i + 1, _, (i : Int), by omega, by go_num, rfl, rfl, HBB.out.take hia hfb⟩
                        case measure => simp [intOf]; omega
                      · go_wp2
                        go_quiet (fail)
                        go_wp2
                        go_roundw
                        case rel => exact ⟨i + 1, _, (b : Int), by omega, by go_num, rfl, rfl, HBB.out.keep (by omega)⟩
                        case measure => simp [intOf]; omega
                · obtain ⟨b, hb1, hb2, hb3, hb4⟩ := HB'.out.fin (len := len) (by omega) hl ha
                  subst hb1
                  have HM3 : Hid (∀ x, x < len → x ≠ a → f b ≤ f x) := hb4
                  clear hb4 HB'
                  have f1 : wo.cell? ⟨w.heap.size, a, none⟩ = some (.int .i64 (f a)) := P1.out.row.cell (by omega)
                  have f2 : wo.cell? ⟨w.heap.size, b, none⟩ = some (.int .i64 (f b)) := P1.out.row.cell (by omega)
                  have b2 : (a : Int) < (len : Int) := by omega
                  have b3 : (b : Int) < (len : Int) := by omega
                  have fa0 := P1.out.pos a ha
                  have fb0 := P1.out.pos b hb2
                  have fa1 := P1.out.le ha
                  have fb1 := P1.out.le hb2
                  obtain ⟨L, rfl⟩ : ∃ L, len = L + 2 := ⟨len - 2, by omega⟩
                  rcases Nat.lt_or_ge a b with hab | hab
                  · have b4 : ¬ (b : Int) < (a : Int) := by omega
                    have hst := P1.out.hc.step (a := a) (b := b) (lo := a) (hi := b) (by omega) ha hb2 HM2.out HM3.out P1.out.pos (Or.inl ⟨rfl, rfl, hab⟩)
                    have HST : Hid (HC n c (L + 1) (upd (upd f a (f a + f b)) b (f (L + 1))) (cost + (f a + f b)) ∧ sm (upd (upd f a (f a + f b)) b (f (L + 1))) (L + 1) = sm f (L + 2) ∧ ∀ i, i < L + 1 → 0 ≤ upd (upd f a (f a + f b)) b (f (L + 1)) i) := hst
                    clear hst
                    have HS1 : Hid (f a + f b ≤ 1073741824) := by
                      have h1 := HST.out.2.1
                      have h2 := sm_term (f := upd (upd f a (f a + f b)) b (f (L + 1))) (k := L + 1) (j := a) HST.out.2.2 (by omega)
                      rw [upd_ne (by omega), upd_same] at h2
                      have h3 := P1.out.sum
                      show f a + f b ≤ 1073741824
                      omega
                    go_wp2
                    go_quiet (fail)
                    have R1 : Pl w ((wo.drewN nq4).drewN nq) w.heap.size n c (L + 2) f cost := (P1.out.drewN nq4).drewN nq
                    clear f1 f2
                    generalize (wo.drewN nq4).drewN nq = X at R1 ⊢
                    have R2 : Hid (Pl w X w.heap.size n c (L + 2) f cost) := R1
                    clear R1 HM2 HM3
                    have f1 := R2.out.row.cell (i := a) (by omega)
                    have f2 := R2.out.row.frozen a
                    have r3 := R2.out.row.set a (.int .i64 (f a + f b))
                    have f3 : (X.setCell ⟨w.heap.size, a, none⟩ (.int .i64 (f a + f b))).cell? ⟨w.heap.size, L + 1, none⟩ = some (.int .i64 (f (L + 1))) := by
                      rw [r3.cell (by omega), if_neg (by omega)]
                    obtain ⟨u, f4⟩ : ∃ u, (X.setCell ⟨w.heap.size, a, none⟩ (.int .i64 (f a + f b))).cell? ⟨w.heap.size, b, none⟩ = some u := ⟨_, r3.cell (by omega)⟩
                    have f5 := r3.frozen b
                    have R4 : Hid (((X.setCell ⟨w.heap.size, a, none⟩ (.int .i64 (f a + f b))).setCell ⟨w.heap.size, b, none⟩ (.int .i64 (f (L + 1)))).rowIs w.heap.size 2 n (fun i => .int .i64 (upd (upd f a (f a + f b)) b (f (L + 1)) i))) :=
                      (r3.set b (.int .i64 (f (L + 1)))).congr (fun i _ => by
                        by_cases e : i = b
                        · subst e; rw [if_pos rfl, upd_same]
                        · rw [if_neg e, upd_ne e]
                          by_cases e2 : i = a
                          · subst e2; rw [if_pos rfl, upd_same]
                          · rw [if_neg e2, upd_ne e2])
                    clear r3
                    have c1 : (a : Int) < ((L + 2 : Nat) : Int) := by omega
                    have c2 : (b : Int) < ((L + 2 : Nat) : Int) := by omega
                    go_wp2
                    go_roundw
                    case rel =>
                      refine ⟨L + 1, upd (upd f a (f a + f b)) b (f (L + 1)), cost + (f a + f b), by omega, by omega, rfl, rfl, R4.out, (R2.out.bel.setCell (by simp) _).setCell (by simp) _, HST.out.1, by rw [HST.out.2.1]; exact P1.out.sum, HST.out.2.2, by omega, ?_⟩
                      have := HS1.out
                      omega
                    case measure => simp [lenOf]
                  · have hba : b < a := by omega
                    have b4 : (b : Int) < (a : Int) := by omega
                    have hst := P1.out.hc.step (a := a) (b := b) (lo := b) (hi := a) (by omega) ha hb2 HM2.out HM3.out P1.out.pos (Or.inr ⟨rfl, rfl, hba⟩)
                    have HST : Hid (HC n c (L + 1) (upd (upd f b (f a + f b)) a (f (L + 1))) (cost + (f a + f b)) ∧ sm (upd (upd f b (f a + f b)) a (f (L + 1))) (L + 1) = sm f (L + 2) ∧ ∀ i, i < L + 1 → 0 ≤ upd (upd f b (f a + f b)) a (f (L + 1)) i) := hst
                    clear hst
                    have HS1 : Hid (f a + f b ≤ 1073741824) := by
                      have h1 := HST.out.2.1
                      have h2 := sm_term (f := upd (upd f b (f a + f b)) a (f (L + 1))) (k := L + 1) (j := b) HST.out.2.2 (by omega)
                      rw [upd_ne (by omega), upd_same] at h2
                      have h3 := P1.out.sum
                      show f a + f b ≤ 1073741824
                      omega
                    go_wp2
                    go_quiet (fail)
                    have R1 : Pl w ((wo.drewN nq4).drewN nq) w.heap.size n c (L + 2) f cost := (P1.out.drewN nq4).drewN nq
                    clear f1 f2
                    generalize (wo.drewN nq4).drewN nq = X at R1 ⊢
                    have R2 : Hid (Pl w X w.heap.size n c (L + 2) f cost) := R1
                    clear R1 HM2 HM3
                    have f1 := R2.out.row.cell (i := b) (by omega)
                    have f2 := R2.out.row.frozen b
                    have r3 := R2.out.row.set b (.int .i64 (f a + f b))
                    have f3 : (X.setCell ⟨w.heap.size, b, none⟩ (.int .i64 (f a + f b))).cell? ⟨w.heap.size, L + 1, none⟩ = some (.int .i64 (f (L + 1))) := by
                      rw [r3.cell (by omega), if_neg (by omega)]
                    obtain ⟨u, f4⟩ : ∃ u, (X.setCell ⟨w.heap.size, b, none⟩ (.int .i64 (f a + f b))).cell? ⟨w.heap.size, a, none⟩ = some u := ⟨_, r3.cell (by omega)⟩
                    have f5 := r3.frozen a
                    have R4 : Hid (((X.setCell ⟨w.heap.size, b, none⟩ (.int .i64 (f a + f b))).setCell ⟨w.heap.size, a, none⟩ (.int .i64 (f (L + 1)))).rowIs w.heap.size 2 n (fun i => .int .i64 (upd (upd f b (f a + f b)) a (f (L + 1)) i))) :=
                      (r3.set a (.int .i64 (f (L + 1)))).congr (fun i _ => by
                        by_cases e : i = a
                        · subst e; rw [if_pos rfl, upd_same]
                        · rw [if_neg e, upd_ne e]
                          by_cases e2 : i = b
                          · subst e2; rw [if_pos rfl, upd_same]
                          · rw [if_neg e2, upd_ne e2])
                    clear r3
                    have c1 : (b : Int) < ((L + 2 : Nat) : Int) := by omega
                    have c2 : (a : Int) < ((L + 2 : Nat) : Int) := by omega
                    go_wp2
                    go_roundw
                    case rel =>
                      refine ⟨L + 1, upd (upd f b (f a + f b)) a (f (L + 1)), cost + (f a + f b), by omega, by omega, rfl, rfl, R4.out, (R2.out.bel.setCell (by simp) _).setCell (by simp) _, HST.out.1, by rw [HST.out.2.1]; exact P1.out.sum, HST.out.2.2, by omega, ?_⟩
                      have := HS1.out
                      omega
                    case measure => simp [lenOf]
        · have e1 : Hid (len = 1) := by show len = 1; omega
          have FIN : Hid (Hs (n - 1) (leaves n c) cost) := by
            have := P1.out.hc
            rw [e1.out] at this
            exact this.done
          have b1 : ¬ (1 : Int) < (len : Int) := by omega
          go_wp2
          go_ret
          exact ⟨⟨cost, rfl, FIN.out⟩, P1.out.bel⟩
end Go.Proofs.Qxb6600394a.Hf
