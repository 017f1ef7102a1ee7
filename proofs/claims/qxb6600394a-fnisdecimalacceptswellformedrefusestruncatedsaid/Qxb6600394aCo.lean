import Derived.Test.Qxb6600394aDp
import Derived.Test.Qxb6600394aDm
namespace Go.Proofs.Qxb6600394a.Dc
open Go.RowKit Cl

/-- The row that the call itself builds: block G holds the bytes ys, k of them, room for cap; below w0's end nothing has turned. -/
def Ow (w0 w : World) (G k cap : Nat) (ys : List Int) : Prop :=
  ys.length = k ∧ w0.heap.size ≤ G ∧ w.ownsRow w0.heap.size 5 1 (.slice (some ⟨G, 0, none⟩) k cap) k (ys.map (Value.int .u8)) ∧ Below w0.heap.size w0 w
/-- What is appended: m bytes zs. -/
def Src (w : World) (ao : Option Addr) (m c : Nat) (zs : List Int) : Prop := zs.length = m ∧ (ao = none → m = 0 ∧ c = 0) ∧ Rd w ao .u8 zs

theorem Src.later {w w' : World} {ao : Option Addr} {m c : Nat} {zs : List Int} (h : Src w ao m c zs) (hb : Below w.heap.size w w') : Src w' ao m c zs := ⟨h.1, h.2.1, rd_below h.2.2 hb⟩
theorem Ow.alloc {w0 w : World} {G k cap : Nat} {ys : List Int} (h : Ow w0 w G k cap ys) (o : Obj) : Ow w0 (w.alloc o) G k cap ys := ⟨h.1, h.2.1, h.2.2.1.alloc o, h.2.2.2.alloc h.2.2.2.size o⟩
theorem src_one (w : World) (x : Int) : Src (w.alloc (.cells #[.int .u8 x] 5)) (some ⟨w.heap.size, 0, none⟩) 1 1 [x] := by
  refine ⟨rfl, fun h => by simp at h, ?_⟩
  intro i hi
  have : i = 0 := by simp at hi; omega
  subst this
  exact ⟨_, rfl, by simp⟩

theorem wpList_app {w0 : World} (w : World) {ops : Array Oper} {rest : List Oper} {o : Oper} {a : Act} {Q : Exit → Act → World → Prop}
    (hg : o.guard = none) (s x : Operand) (hop : o.op = Op.call { callee := Callee.builtin Builtin.append, args := #[s, x], argTypes := #[25, 25] })
    (G k cap : Nat) (ys : List Int) (hs : a.eval s = .slice (some ⟨G, 0, none⟩) k cap) (how : Ow w0 w G k cap ys) (ao : Option Addr) (m c : Nat) (zs : List Int) (hx : a.eval x = .slice ao m c) (hr : Src w ao m c zs) (b1 : k + m ≤ cap)
    (hK : ∀ w', Ow w0 w' G (k + m) cap (ys ++ zs) → wpList Try.prog ops Q rest (a.put o.dst (.slice (some ⟨G, 0, none⟩) (k + m) cap)) w') :
    wpList Try.prog ops Q (o :: rest) a w := by
  obtain ⟨i, hi, hz0, hz1, hz2⟩ := info_parts info5
  refine wpList_append_fits_any w hg s x 25 hop w0.heap.size 5 i 1 Try.underlying25 hi hz1 G k cap (ys.map (Value.int .u8)) hs how.2.2.1 ao m c (zs.map (Value.int .u8)) hx (by simpa using hr.1) hr.2.1 ?_ (ints_oneCell _ _) b1 ?_
  · intro ad had j u hu
    have hj : j < zs.length := by
      have := (List.getElem?_eq_some_iff.1 hu).1
      simpa using this
    obtain ⟨b, hb, hc⟩ := hr.2.2 j hj
    rw [hb] at had
    obtain rfl := Option.some.inj had
    rw [add_plain', Nat.zero_add, hc]
    rw [List.getElem?_map] at hu
    rw [← hu]
    simp [List.getD_eq_getElem?_getD, hj]
  · intro w' h1 h2
    refine hK w' ⟨by simp [how.1, hr.1], how.2.1, by rw [List.map_append]; exact h1, how.2.2.2.grown h2 how.2.2.2.size (fun k hk => ?_)⟩
    have : G = k := by simpa using hk
    have := how.2.1
    omega

theorem sgn_len (s : Int) : (sgn s).length ≤ 1 := by
  unfold sgn; split
  · simp
  · split <;> simp

set_option maxHeartbeats 400000 in
theorem appendSign_any (w0 w : World) (G k cap : Nat) (ys : List Int) (how : Ow w0 w G k cap ys) (s : Int) (h0 : 0 ≤ s) (h1 : s ≤ 255) (hk : k + 1 ≤ cap) :
    Calls Try.prog 37 #[.slice (some ⟨G, 0, none⟩) k cap, .int .u8 s] w fun e w' => ∃ k', k' ≤ k + 1 ∧ e = .returned (.slice (some ⟨G, 0, none⟩) k' cap) ∧ Ow w0 w' G k' cap (ys ++ sgn s) := by
  have hm : s % 3 = 0 ∨ s % 3 = 1 ∨ s % 3 = 2 := by omega
  rcases hm with hm | hm | hm
  · have e : sgn s = [] := by simp [sgn, hm]
    rw [e]
    have g1 : (s % 3 == 1) = false := by rw [beq_eq_false_iff_ne]; omega
    have g2 : (s % 3 == 2) = false := by rw [beq_eq_false_iff_ne]; omega
    clear e hm
    go_enter Try.func37, Try.ntmps37
    go_wp2
    go_ret
    exact ⟨k, by omega, rfl, by simpa using how⟩
  · have e : sgn s = [43] := by simp [sgn, hm]
    rw [e]
    have g1 : (s % 3 == 1) = true := by rw [beq_iff_eq]; omega
    clear e hm
    go_enter Try.func37, Try.ntmps37
    go_wp2_with (at_builtin; refine wpList_app (w0 := w0) _ rfl (.tmp 9) (.tmp 10) rfl G k cap ys rfl (how.alloc _) _ _ _ [43] rfl (src_one _ _) (by omega) ?_; intro w2 how2)
    go_ret
    exact ⟨k + 1, by omega, rfl, how2⟩
  · have e : sgn s = [45] := by simp [sgn, hm]
    rw [e]
    have g1 : (s % 3 == 1) = false := by rw [beq_eq_false_iff_ne]; omega
    have g2 : (s % 3 == 2) = true := by rw [beq_iff_eq]; omega
    clear e hm
    go_enter Try.func37, Try.ntmps37
    go_wp2_with (at_builtin; refine wpList_app (w0 := w0) _ rfl (.tmp 14) (.tmp 15) rfl G k cap ys rfl (how.alloc _) _ _ _ [45] rfl (src_one _ _) (by omega) ?_; intro w2 how2)
    go_ret
    exact ⟨k + 1, by omega, rfl, how2⟩

theorem Ow.done {w0 w : World} {G k cap : Nat} {ys : List Int} (h : Ow w0 w G k cap ys) : Rd w (some ⟨G, 0, none⟩) .u8 ys := by
  intro i hi
  refine ⟨G, rfl, ?_⟩
  have := h.2.2.1.cells (g := G) rfl i (.int .u8 (ys.getD i 0)) (by simp [List.getD_eq_getElem?_getD, hi])
  rwa [add_plain', Nat.zero_add] at this

/-- What zzCompose hands back. -/
def Made (w w' : World) (e : Ending) (ys : List Int) : Prop := ∃ n cap : Nat, e = .returned (.slice (some ⟨w.heap.size, 0, none⟩) n cap) ∧ n = ys.length ∧ n ≤ 4194304 ∧ Rd w' (some ⟨w.heap.size, 0, none⟩) .u8 ys ∧ Below w.heap.size w w'
theorem Made.of {w w' : World} {k cap : Nat} {ys zs : List Int} (h : Ow w w' w.heap.size k cap ys) (e : ys = zs) (hk : k ≤ 4194304) : Made w w' (.returned (.slice (some ⟨w.heap.size, 0, none⟩) k cap)) zs := by
  subst e
  exact ⟨k, cap, rfl, h.1.symm, hk, h.done, h.2.2.2⟩

set_option maxHeartbeats 1000000 in
theorem compose_any (s : Int) (aw : Option Addr) (nw cw : Nat) (hF : Bool) (af : Option Addr) (nf cf : Nat) (hE up : Bool) (es : Int) (ae : Option Addr) (ne ce : Nat) (zw zf ze : List Int) (w : World)
    (h0 : 0 ≤ s) (h1 : s ≤ 255) (h2 : 0 ≤ es) (h3 : es ≤ 255) (sw : Src w aw nw cw zw) (sf : Src w af nf cf zf) (se : Src w ae ne ce ze) (bw : nw ≤ 1048576) (bf : nf ≤ 1048576) (be : ne ≤ 1048576) :
    Calls Try.prog 28 #[.int .u8 s, .slice aw nw cw, .bool hF, .slice af nf cf, .bool hE, .bool up, .int .u8 es, .slice ae ne ce] w fun e w' => Made w w' e (comp s zw hF zf hE up es ze) := by
  have hmk : ∀ w : World, (Instr.makeSlice 25 (.int .i64 0) (.int .i64 ((nw : Int) + (nf : Int) + (ne : Int) + 4))).run Try.prog w = .ok (.slice (some ⟨w.heap.size, 0, none⟩) 0 (nw + nf + ne + 4)) (w.alloc (.cells (madeCells #[.int .u8 0] (nw + nf + ne + 4)) 5)) := by
    intro w
    obtain ⟨i, hi, hz0, hz1, hz2⟩ := info_parts info5
    have hr := run_make (P := Try.prog) w 25 5 i _ Try.underlying25 hi hz0 .i64 .i64 0 ((nw : Int) + (nf : Int) + (ne : Int) + 4) (by omega) (by omega) (by rw [hz2]; omega) (by omega)
    have et : ((nw : Int) + (nf : Int) + (ne : Int) + 4).toNat = nw + nf + ne + 4 := by omega
    rw [hr, et, hz1]
    simp [Value.cells]
  have how0 : Ow w (w.alloc (.cells (madeCells #[.int .u8 0] (nw + nf + ne + 4)) 5)) w.heap.size 0 (nw + nf + ne + 4) [] :=
    ⟨rfl, Nat.le_refl _, World.ownsRow_made w _ (nw + nf + ne + 4) (Nat.le_refl _) (by unfold maxLen; omega) (by simp [size_madeCells]), (Below.refl _ _).alloc (Nat.le_refl _) _⟩
  go_enter Try.func28, Try.ntmps28
  go_wp2_with fail
  clear hmk
  refine (appendSign_any w _ w.heap.size 0 (nw + nf + ne + 4) [] how0 s h0 h1 (by omega)).mono ?_
  rintro e w1 ⟨k1, hk1, rfl, how1⟩
  clear how0
  cases hF
  · cases hE
    · go_wp2_with (first | (at_builtin; refine wpList_app (w0 := w) _ rfl (.tmp 31) (.tmp 32) rfl w.heap.size (k1) (nw + nf + ne + 4) _ rfl how1 _ _ _ zw rfl (sw.later how1.2.2.2) (by omega) ?_; intro w2 how2))
      go_ret
      exact Made.of how2 (by simp [comp]) (by omega)
    · cases up
      · go_wp2_with (first | (at_builtin; refine wpList_app (w0 := w) _ rfl (.tmp 31) (.tmp 32) rfl w.heap.size (k1) (nw + nf + ne + 4) _ rfl how1 _ _ _ zw rfl (sw.later how1.2.2.2) (by omega) ?_; intro w2 how2) | (at_builtin; refine wpList_app (w0 := w) _ rfl (.tmp 46) (.tmp 47) rfl w.heap.size (k1 + nw) (nw + nf + ne + 4) _ rfl (how2.alloc _) _ _ _ [101] rfl (src_one _ _) (by omega) ?_; intro w3 how3))
        refine (appendSign_any w _ w.heap.size (k1 + nw + 1) (nw + nf + ne + 4) _ how3 es h2 h3 (by omega)).mono ?_
        rintro e w4 ⟨k4, hk4, rfl, how4⟩
        go_wp2_with (at_builtin; refine wpList_app (w0 := w) _ rfl (.tmp 52) (.tmp 53) rfl w.heap.size (k4) (nw + nf + ne + 4) _ rfl how4 _ _ _ ze rfl (se.later how4.2.2.2) (by omega) ?_; intro w5 how5)
        go_ret
        exact Made.of how5 (by simp [comp, expo]) (by omega)
      · go_wp2_with (first | (at_builtin; refine wpList_app (w0 := w) _ rfl (.tmp 31) (.tmp 32) rfl w.heap.size (k1) (nw + nf + ne + 4) _ rfl how1 _ _ _ zw rfl (sw.later how1.2.2.2) (by omega) ?_; intro w2 how2) | (at_builtin; refine wpList_app (w0 := w) _ rfl (.tmp 43) (.tmp 44) rfl w.heap.size (k1 + nw) (nw + nf + ne + 4) _ rfl (how2.alloc _) _ _ _ [69] rfl (src_one _ _) (by omega) ?_; intro w3 how3))
        refine (appendSign_any w _ w.heap.size (k1 + nw + 1) (nw + nf + ne + 4) _ how3 es h2 h3 (by omega)).mono ?_
        rintro e w4 ⟨k4, hk4, rfl, how4⟩
        go_wp2_with (at_builtin; refine wpList_app (w0 := w) _ rfl (.tmp 52) (.tmp 53) rfl w.heap.size (k4) (nw + nf + ne + 4) _ rfl how4 _ _ _ ze rfl (se.later how4.2.2.2) (by omega) ?_; intro w5 how5)
        go_ret
        exact Made.of how5 (by simp [comp, expo]) (by omega)
  · cases hE
    · go_wp2_with (first | (at_builtin; refine wpList_app (w0 := w) _ rfl (.tmp 31) (.tmp 32) rfl w.heap.size (k1) (nw + nf + ne + 4) _ rfl how1 _ _ _ zw rfl (sw.later how1.2.2.2) (by omega) ?_; intro w2 how2) | (at_builtin; refine wpList_app (w0 := w) _ rfl (.tmp 35) (.tmp 36) rfl w.heap.size (k1 + nw) (nw + nf + ne + 4) _ rfl (how2.alloc _) _ _ _ [46] rfl (src_one _ _) (by omega) ?_; intro w6 how6) | (at_builtin; refine wpList_app (w0 := w) _ rfl (.tmp 38) (.tmp 39) rfl w.heap.size (k1 + nw + 1) (nw + nf + ne + 4) _ rfl how6 _ _ _ zf rfl (sf.later how6.2.2.2) (by omega) ?_; intro w7 how7))
      go_ret
      exact Made.of how7 (by simp [comp]) (by omega)
    · cases up
      · go_wp2_with (first | (at_builtin; refine wpList_app (w0 := w) _ rfl (.tmp 31) (.tmp 32) rfl w.heap.size (k1) (nw + nf + ne + 4) _ rfl how1 _ _ _ zw rfl (sw.later how1.2.2.2) (by omega) ?_; intro w2 how2) | (at_builtin; refine wpList_app (w0 := w) _ rfl (.tmp 35) (.tmp 36) rfl w.heap.size (k1 + nw) (nw + nf + ne + 4) _ rfl (how2.alloc _) _ _ _ [46] rfl (src_one _ _) (by omega) ?_; intro w6 how6) | (at_builtin; refine wpList_app (w0 := w) _ rfl (.tmp 38) (.tmp 39) rfl w.heap.size (k1 + nw + 1) (nw + nf + ne + 4) _ rfl how6 _ _ _ zf rfl (sf.later how6.2.2.2) (by omega) ?_; intro w7 how7) | (at_builtin; refine wpList_app (w0 := w) _ rfl (.tmp 46) (.tmp 47) rfl w.heap.size (k1 + nw + 1 + nf) (nw + nf + ne + 4) _ rfl (how7.alloc _) _ _ _ [101] rfl (src_one _ _) (by omega) ?_; intro w3 how3))
        refine (appendSign_any w _ w.heap.size (k1 + nw + 1 + nf + 1) (nw + nf + ne + 4) _ how3 es h2 h3 (by omega)).mono ?_
        rintro e w4 ⟨k4, hk4, rfl, how4⟩
        go_wp2_with (at_builtin; refine wpList_app (w0 := w) _ rfl (.tmp 52) (.tmp 53) rfl w.heap.size (k4) (nw + nf + ne + 4) _ rfl how4 _ _ _ ze rfl (se.later how4.2.2.2) (by omega) ?_; intro w5 how5)
        go_ret
        exact Made.of how5 (by simp [comp, expo]) (by omega)
      · go_wp2_with (first | (at_builtin; refine wpList_app (w0 := w) _ rfl (.tmp 31) (.tmp 32) rfl w.heap.size (k1) (nw + nf + ne + 4) _ rfl how1 _ _ _ zw rfl (sw.later how1.2.2.2) (by omega) ?_; intro w2 how2) | (at_builtin; refine wpList_app (w0 := w) _ rfl (.tmp 35) (.tmp 36) rfl w.heap.size (k1 + nw) (nw + nf + ne + 4) _ rfl (how2.alloc _) _ _ _ [46] rfl (src_one _ _) (by omega) ?_; intro w6 how6) | (at_builtin; refine wpList_app (w0 := w) _ rfl (.tmp 38) (.tmp 39) rfl w.heap.size (k1 + nw + 1) (nw + nf + ne + 4) _ rfl how6 _ _ _ zf rfl (sf.later how6.2.2.2) (by omega) ?_; intro w7 how7) | (at_builtin; refine wpList_app (w0 := w) _ rfl (.tmp 43) (.tmp 44) rfl w.heap.size (k1 + nw + 1 + nf) (nw + nf + ne + 4) _ rfl (how7.alloc _) _ _ _ [69] rfl (src_one _ _) (by omega) ?_; intro w3 how3))
        refine (appendSign_any w _ w.heap.size (k1 + nw + 1 + nf + 1) (nw + nf + ne + 4) _ how3 es h2 h3 (by omega)).mono ?_
        rintro e w4 ⟨k4, hk4, rfl, how4⟩
        go_wp2_with (at_builtin; refine wpList_app (w0 := w) _ rfl (.tmp 52) (.tmp 53) rfl w.heap.size (k4) (nw + nf + ne + 4) _ rfl how4 _ _ _ ze rfl (se.later how4.2.2.2) (by omega) ?_; intro w5 how5)
        go_ret
        exact Made.of how5 (by simp [comp, expo]) (by omega)
end Go.Proofs.Qxb6600394a.Dc
