import Derived.Test.Qxb6601138aMg
namespace Go.Proofs.Qxb6601138a.Hf
open Go.RowKit Gw
set_option linter.unusedVariables false

/-- What packageMerge is handed. -/
structure PP (n nl M : Nat) (len L : Nat → Int) : Prop where
  rng : ∀ i, i < n → 0 ≤ L i ∧ L i ≤ 18446744073709551615
  srt : Srt n nl L
  dst : Dst n L
  lr : ∀ s, s < nl → 0 ≤ len s ∧ len s ≤ 255
  tot : sm (lwt L) n ≤ 36028797018963968
  big : n ≤ 2 ^ M
  hn : n ≤ 4096
  hM : 1 ≤ M ∧ M ≤ 255
section
variable {n nl M : Nat} {len L : Nat → Int}
theorem PP.ls (h : PP n nl M len L) : ∀ a b, a ≤ b → b < n → lwt L a ≤ lwt L b := fun a b hab hb => h.srt.mono b a hab hb
theorem PP.lpos (h : PP n nl M len L) : ∀ a, a < n → 0 ≤ lwt L a := fun a ha => by
  have := (h.rng a ha).1
  unfold lwt wI; omega
/-- No pair's weight leaves 64 bits. -/
theorem PP.small (h : PP n nl M len L) {r k j : Nat} {vv : Nat → Nat → Int} {ff : Nat → Nat → Bool} (c : CH n M r (lwt L) vv ff) (h1 : M - r ≤ k) (h2 : k < M) (hj : j < szl n (M - 1 - k) / 2) : pwt (vv k) j ≤ 9187343239835811840 := by
  have e1 := pwt_le (c.lv k h1 h2) hj
  have e2 := c.sum k h1 h2
  have e3 : 0 ≤ sm (lwt L) n := by
    have := sm_mono' (f := lwt L) (a := 0) (b := n) (Nat.zero_le _) h.lpos
    exact this
  have e4 : ((M - k : Nat) : Int) * sm (lwt L) n ≤ 255 * sm (lwt L) n := Int.mul_le_mul_of_nonneg_right (by have := h.hM; omega) e3
  have e5 := h.tot
  omega
end
/-- On the way down: k levels done, T items to take of the next. -/
structure DL (n M k x T : Nat) (l : Nat → Nat) (ff : Nat → Nat → Bool) : Prop where
  kM : k ≤ M
  dn : (2 ≤ n ∧ DN n M k x T l) ∨ (n < 2 ∧ T = 0 ∧ ∀ i, l i = 0)
  fit : k < M → T ≤ szl n (M - 1 - k) ∧ ct (ff k) T ≤ x
  last : k = M → T = 0
section
variable {n nl M k x T : Nat} {len L : Nat → Int} {l : Nat → Nat} {vv : Nat → Nat → Int} {ff : Nat → Nat → Bool}
theorem DL.start (h : PP n nl M len L) (c : CH n M M (lwt L) vv ff) : DL n M 0 n (2 * n - 2) (fun _ => 0) ff := by
  refine ⟨Nat.zero_le _, ?_, fun hk => ?_, fun hk => by have := h.hM; omega⟩
  · by_cases e : 2 ≤ n
    · exact Or.inl ⟨e, DN.start e⟩
    · exact Or.inr ⟨by omega, by omega, fun _ => rfl⟩
  · have e1 := szl_top h.big h.hM.1
    rw [Nat.sub_zero]
    refine ⟨e1, ?_⟩
    have := (c.lv 0 (by omega) hk).ctn (2 * n - 2) (by rw [Nat.sub_zero]; exact e1)
    exact this
theorem DL.step (h : PP n nl M len L) (c : CH n M M (lwt L) vv ff) (d : DL n M k x T l ff) (hT : 0 < T) : DL n M (k + 1) (ct (ff k) T) (2 * (T - ct (ff k) T)) (grow l (ct (ff k) T)) ff := by
  have hk : k < M := by
    have := d.kM
    have := d.last
    omega
  obtain ⟨f1, f2⟩ := d.fit hk
  refine ⟨hk, ?_, fun hk2 => ?_, fun hk2 => ?_⟩
  · rcases d.dn with ⟨e1, e2⟩ | ⟨e1, e2, e3⟩
    · exact Or.inl ⟨e1, e2.step hk f2 (ct_le _ _)⟩
    · omega
  · have := taken_le h.ls (c.lv k (by omega) hk) (c.lk k (by omega) hk2) (c.lv (k + 1) (by omega) hk2) f1
    exact this
  · obtain rfl : k = M - 1 := by omega
    have e : ff (M - 1) = fun _ => true := funext c.base
    rw [e, ct_true, Nat.sub_self]
end
/-- The lengths: each leaf's has risen by l, modulo 256; no other has changed. -/
structure LN (n : Nat) (L len len' : Nat → Int) (l : Nat → Nat) : Prop where
  on : ∀ i, i < n → len' (sN (L i)) = (len (sN (L i)) + (l i : Int)) % 256
  off : ∀ s, (∀ i, i < n → sN (L i) ≠ s) → len' s = len s
theorem LN.start {n nl M : Nat} {L len : Nat → Int} (h : PP n nl M len L) : LN n L len len (fun _ => 0) where
  on i hi := by
    have h1 := h.lr _ (h.srt i hi).1
    show _ = (len (sN (L i)) + ((0 : Nat) : Int)) % 256
    omega
  off _ _ := rfl
theorem LN.step {n : Nat} {L len len' : Nat → Int} {l : Nat → Nat} {a : Nat} (d : Dst n L) (h : LN n L len len' (grow l a)) (ha : a < n) : LN n L len (upd len' (sN (L a)) ((len' (sN (L a)) + 1) % 256)) (grow l (a + 1)) where
  on i hi := by
    by_cases e : i = a
    · subst e
      have := h.on i hi
      rw [upd_same, this]
      unfold grow
      rw [if_neg (by omega), if_pos (by omega)]
      omega
    · have e2 : sN (L i) ≠ sN (L a) := by
        rcases Nat.lt_or_ge i a with h1 | h1
        · exact d i a h1 ha
        · exact fun h2 => d a i (by omega) hi h2.symm
      rw [upd_ne e2, h.on i hi]
      unfold grow
      by_cases e3 : i < a
      · rw [if_pos e3, if_pos (by omega)]
      · rw [if_neg e3, if_neg (by omega)]
  off s hs := by
    rw [upd_ne (fun e => hs a ha e.symm)]; exact h.off s hs
theorem grow_zero (l : Nat → Nat) : grow l 0 = l := funext fun i => by unfold grow; rw [if_neg (by omega)]
theorem ZF.setL {w wr : World} {B Bo nl n : Nat} {ao av : Option Addr} {len L : Nat → Int} {Wb Ib M r : Nat} {Fb : Nat → Nat} {ff : Nat → Nat → Bool} (h : ZF w wr B Bo nl n ao av len L Wb Ib M r Fb ff) (hl : 0 < nl) (i : Nat) (v : Int) : ZF w (wr.setCell ⟨Bo, i, none⟩ (.int .u8 v)) B Bo nl n ao av (upd len i v) L Wb Ib M r Fb ff := by
  have g := (h.ze.geo.2 hl).2
  have gg := h.geo
  exact ⟨h.ze.setL hl i v, h.ww.setOther (show Wb ≠ Bo by omega) _, h.il.setOther (show Ib ≠ Bo by omega) _, fun k h1 h2 => ⟨(h.fr k h1 h2).1, (h.fr k h1 h2).2.1, (h.fr k h1 h2).2.2.setOther (show Fb k ≠ Bo by have := (h.fr k h1 h2).1; omega) _⟩, gg⟩
theorem ZF.drewN {w wr : World} {B Bo nl n : Nat} {ao av : Option Addr} {len L : Nat → Int} {Wb Ib M r : Nat} {Fb : Nat → Nat} {ff : Nat → Nat → Bool} (h : ZF w wr B Bo nl n ao av len L Wb Ib M r Fb ff) (k : Nat) : ZF w (wr.drewN k) B Bo nl n ao av len L Wb Ib M r Fb ff := h.below (below_drw (Below.refl _ _) k)
end Go.Proofs.Qxb6601138a.Hf
