import Derived.Test.Qxb6601138aMh
import Derived.Deep.RegionLaw
namespace Go.Proofs.Qxb6601138a.Hf
open Go.RowKit Gw
set_option linter.unusedVariables false

theorem info38 : (Try.prog.info? 38).map (fun i => (i.zero, i.size, i.bytes)) = some (some (.slice none 0 0), 1, 24) := by kernel_rfl
theorem repeat_at (n : Nat) (hn : n ≤ 4096) (w : World) (b : Nat) (hbs : b < w.heap.size) (hb : w.cell? ⟨b, 0, none⟩ = some (.bool true)) :
    Calls Try.prog 34 #[.slice (some ⟨b, 0, none⟩) 1 1, .int .i64 (n : Int)] w fun e w' => e = .returned (.slice (some ⟨w.heap.size, 0, none⟩) n n) ∧ w'.rowIs w.heap.size 4 n (fun _ => .bool true) ∧ Below w.heap.size w w' := by
  rcases Nat.eq_zero_or_pos n with rfl | h
  · exact repeat_zero w b
  · exact repeat_any n hn h w b hbs hb
theorem zf_zero {w wr w1 : World} {B Bo nl n Wb Ib M : Nat} {ao av : Option Addr} {len L : Nat → Int} (h : ZE w wr B Bo nl n ao av len L) (hw : wr.rowIs Wb 28 n (fun i => .int .u64 (lwt L i))) (e : w.heap.size = Wb) (hI : wr.heap.size = Ib)
    (hb : Below (Ib + 1 + 1) ((wr.alloc (.cells (madeCells #[.slice none 0 0] M) 38)).alloc (.cells #[.bool true] 4)) w1) : ZF w w1 B Bo nl n ao av len L Wb Ib M 0 (fun _ => 0) (fun _ _ => true) := by
  subst hI
  have hlt := hw.lt
  have b2 : Below wr.heap.size wr w1 := ⟨hb.os, hb.tape, hb.output, by have := hb.size; simp at this; omega, fun k hk => by
    rw [hb.block k (by omega), Below.heap_alloc _ _ _ (by simp; omega), Below.heap_alloc _ _ _ hk]⟩
  refine ⟨h.keep (fun k hk => b2.block k (by have := h.en.2.2.2; omega)) ⟨b2.os, b2.tape, b2.output, b2.size⟩, hw.of_block (b2.block _ hlt), ?_, fun k h1 h2 => by omega, by omega, h.en.2.2.2, by omega⟩
  have r0 := (World.rowIs_made wr (.slice none 0 0) M 38).alloc (.cells #[.bool true] 4)
  refine (r0.of_block (hb.block _ (by omega))).congr (fun j hj => ?_)
  unfold ilv
  rw [if_neg (by omega)]
theorem zf_one {w w1 : World} {B Bo nl n Wb Ib M G : Nat} {ao av : Option Addr} {len L : Nat → Int} (h : ZF w w1 B Bo nl n ao av len L Wb Ib M 0 (fun _ => 0) (fun _ _ => true)) (hM : 1 ≤ M) (hG : w1.rowIs G 4 n (fun _ => .bool true)) (g1 : w.heap.size ≤ G) (g2 : G ≠ Ib) : ZF w (w1.setCell ⟨Ib, M - 1, none⟩ (.slice (some ⟨G, 0, none⟩) n n)) B Bo nl n ao av len L Wb Ib M 1 (upd (fun _ => 0) (M - 1) G) (fun _ _ => true) := by
  have := h.lay (g := fun _ => true) (G := G) (by omega) hG g1 g2
  have e : upd (fun _ _ => true) (M - 1 - 0) (fun _ => true) = (fun (_ : Nat) (_ : Nat) => true) := funext fun j => by
    by_cases e : j = M - 1 - 0
    · rw [e, upd_same]
    · rw [upd_ne e]
  rw [e] at this
  exact this
theorem cell_new (w : World) (v : Value) (t : TypeId) {Z : Nat} (h : w.heap.size = Z) : (w.alloc (.cells #[v] t)).cell? ⟨Z, 0, none⟩ = some v := (World.cell?_alloc_at (w := w) _ _ _ _ h.symm).trans rfl
theorem cell_new2 (w : World) (v : Value) (t : TypeId) (o : Obj) {Z : Nat} (h : w.heap.size = Z) : ((w.alloc (.cells #[v] t)).alloc o).cell? ⟨Z, 0, none⟩ = some v := (World.cell?_alloc_past o _ _ (by rw [World.size_alloc]; omega)).trans (cell_new w v t h)
set_option maxRecDepth 100000 in
set_option maxHeartbeats 8000000 in
theorem pm_any (w : World) (B Bo nl n M : Nat) (ao av : Option Addr) (len L : Nat → Int) (hn : n ≤ 4096) (hM : 1 ≤ M ∧ M ≤ 255) (hP : Hid (PP n nl M len L)) (hE : Hid (ZE w w B Bo nl n ao av len L)) :
    Calls Try.prog 29 #[.pointer (some ⟨B, 0, none⟩), .int .i64 (M : Int)] w fun e w' => e = .returned (.tuple #[]) ∧ ∃ k x l len', ZE w w' B Bo nl n ao av len' L ∧ LN n L len len' l ∧ k ≤ M ∧ ((2 ≤ n ∧ DN n M k x 0 l) ∨ (n < 2 ∧ ∀ i, l i = 0)) := by
  have f0 := hE.out.c2
  have k1 := run_make_row' 23 28 (.int .u64 0) 8 Try.underlying23 info28 rfl .i64 .i64 n (by omega) (by omega)
  have E1 : Hid (ZE w (w.alloc (.cells (madeCells #[.int .u64 0] n) 28)) B Bo nl n ao av len L) := hE.out.keep (fun k hk => Below.heap_alloc _ _ _ hk) ⟨rfl, rfl, rfl, by simp⟩
  have f1 := E1.out.c2
  have r1 : Hid ((w.alloc (.cells (madeCells #[.int .u64 0] n) 28)).rowIs w.heap.size 28 n (fun _ => .int .u64 0)) := World.rowIs_made w (.int .u64 0) n 28
  go_enter Try.func29, Try.ntmps29
  go_wp2
  clear f0 f1 k1
  obtain ⟨Wb, hWb⟩ : ∃ Wb, w.heap.size = Wb := ⟨_, rfl⟩
  have HWb : Hid (w.heap.size = Wb) := hWb
  have r2 := r1.out
  rw [hWb] at r2
  simp only [hWb]
  clear hWb r1
  go_loopw [35] (fun ri wr => ∃ (k : Nat) (wf : Nat → Int), k ≤ n ∧ ri = .int .i64 (k : Int) ∧ ZE w wr B Bo nl n ao av len L ∧ wr.rowIs Wb 28 n (fun i => .int .u64 (wf i)) ∧ ∀ i, i < k → wf i = lwt L i) (fun ri _ => n - (intOf ri).toNat)
  case atStart => exact ⟨0, fun _ => 0, by omega, rfl, E1.out, r2, fun i hi => by omega⟩
  case round =>
    clear r2 E1
    obtain ⟨k, wf, hk, rfl, he, hr, hw⟩ := hrel
    have R : Hid (ZE w wr B Bo nl n ao av len L ∧ wr.rowIs Wb 28 n (fun i => .int .u64 (wf i)) ∧ ∀ i, i < k → wf i = lwt L i) := ⟨he, hr, hw⟩
    clear he hr hw
    by_cases hkn : k < n
    · obtain ⟨Bv, rfl, v1, v2, v3, v4⟩ := R.out.1.lv (by omega)
      have f1 := v4.cell hkn
      have l1 := (hP.out.rng k hkn).1
      have l2 := (hP.out.rng k hkn).2
      have b1 : (k : Int) < (n : Int) := by omega
      have f2 := R.out.2.1.cell hkn
      have f3 := R.out.2.1.frozen k
      have NX : Hid (ZE w (wr.setCell ⟨Wb, k, none⟩ (.int .u64 (wI (L k)))) B Bo nl n ao (some ⟨Bv, 0, none⟩) len L ∧ (wr.setCell ⟨Wb, k, none⟩ (.int .u64 (wI (L k)))).rowIs Wb 28 n (fun i => .int .u64 (upd wf k (wI (L k)) i))) := by
        refine ⟨R.out.1.keep (fun j hj => Below.heap_setCell _ _ _ _ (show j ≠ Wb by have := HWb.out; omega)) ⟨rfl, rfl, rfl, by simp [World.setCell]⟩, (R.out.2.1.set k _).congr (fun j hj => ?_)⟩
        by_cases e : j = k
        · subst e; rw [if_pos rfl, upd_same]
        · rw [if_neg e, upd_ne e]
      clear v4
      go_wp2_with (go_at_call 32; refine (weight32 _ l1 l2 _).mono ?_; rintro e w' ⟨rfl, rfl⟩)
      go_roundw
      case rel =>
        refine ⟨k + 1, _, by omega, by go_num, NX.out.1, NX.out.2, fun i hi => ?_⟩
        by_cases e : i = k
        · subst e; rw [upd_same]; rfl
        · rw [upd_ne e]; exact R.out.2.2 i (by omega)
      case measure => simp [intOf]; omega
    · have b1 : ¬ (k : Int) < (n : Int) := by omega
      have ekn : k = n := by omega
      have R2 : Hid (ZE w wr B Bo nl n ao av len L ∧ wr.rowIs Wb 28 n (fun i => .int .u64 (lwt L i)) ∧ w.heap.size = Wb) := ⟨R.out.1, R.out.2.1.congr (fun i hi => by rw [R.out.2.2 i (by omega)]), HWb.out⟩
      clear R HWb hk hkn
      have k2 := run_make_row' 50 38 (.slice none 0 0) 24 Try.underlying50 info38 rfl .i64 .i64 M (by omega) (by omega)
      go_wp2_with fail
      clear k2
      obtain ⟨Ib, hIb⟩ : ∃ Ib, wr.heap.size = Ib := ⟨_, rfl⟩
      have RP := repeat_at n hn ((wr.alloc (.cells (madeCells #[.slice none 0 0] M) 38)).alloc (.cells #[.bool true] 4)) (wr.heap.size + 1) (by simp) (by simp)
      simp only [World.size_alloc, hIb] at RP
      simp only [hIb]
      refine RP.mono ?_
      clear RP
      rintro e w1 ⟨rfl, hr, hb⟩
      have Z0 : Hid (ZF w w1 B Bo nl n ao av len L Wb Ib M 0 (fun _ => 0) (fun _ _ => true)) := zf_zero R2.out.1 R2.out.2.1 R2.out.2.2 hIb hb
      have f1 : w1.cell? ⟨Ib, M - 1, none⟩ = some (.slice none 0 0) := by
        have := Z0.out.il.cell (i := M - 1) (by omega)
        unfold ilv at this
        rw [if_neg (by omega)] at this
        exact this
      have f2 := Z0.out.il.frozen (M - 1)
      have Z1 : Hid (ZF w (w1.setCell ⟨Ib, M - 1, none⟩ (.slice (some ⟨Ib + 1 + 1, 0, none⟩) n n)) B Bo nl n ao av len L Wb Ib M 1 (upd (fun _ => 0) (M - 1) (Ib + 1 + 1)) (fun _ _ => true)) := zf_one Z0.out (by omega) hr (by have := Z0.out.geo; omega) (by omega)
      have c1 : IntKind.i64.wrap ((M : Int) - 1) = ((M - 1 : Nat) : Int) := by
        rw [IntKind.wrap_i64]; omega
      have c2 : ((M - 1 : Nat) : Int) < (M : Int) := by omega
      clear hr hb R2 Z0
      have HC : Hid (CH n M 1 (lwt L) (fun _ => lwt L) (fun _ _ => true)) := CH.start (by omega) hP.out.ls hP.out.lpos
      go_wp2
      clear f1 f2 c1 c2
      go_loopw [9, 10] (fun li lv wr => ∃ (r : Nat) (vv : Nat → Nat → Int) (ff : Nat → Nat → Bool) (Fb : Nat → Nat) (V : Nat), (1 ≤ r ∧ r ≤ M) ∧ lv = .int .i64 ((M : Int) - 1 - (r : Int)) ∧ li = .slice (some ⟨V, 0, none⟩) (szl n (r - 1)) (szl n (r - 1)) ∧ ZF w wr B Bo nl n ao av len L Wb Ib M r Fb ff ∧ CH n M r (lwt L) vv ff ∧ wr.rowIs V 28 (szl n (r - 1)) (fun i => .int .u64 (vv (M - r) i)) ∧ V ≠ Ib) (fun _ lv _ => (intOf lv + 1).toNat)
      case atStart =>
        refine ⟨1, _, _, _, Wb, by omega, by go_num, rfl, Z1.out, HC.out, Z1.out.ww, Z1.out.geo.2.2⟩
      case round =>
        clear Z1 HC
        obtain ⟨r, vv, ff, Fb, V, hr, rfl, rfl, hz, hc, hv, hVI⟩ := hrel
        obtain ⟨wo, rfl⟩ : ∃ wo, wo = wr := ⟨_, rfl⟩
        have R : Hid (ZF w wo B Bo nl n ao av len L Wb Ib M r Fb ff ∧ CH n M r (lwt L) vv ff ∧ wo.rowIs V 28 (szl n (r - 1)) (fun i => .int .u64 (vv (M - r) i)) ∧ V ≠ Ib) := ⟨hz, hc, hv, hVI⟩
        clear hz hc hv hVI
        by_cases hrM : r < M
        · obtain ⟨sz, hsz⟩ : ∃ sz, szl n (r - 1) = sz := ⟨_, rfl⟩
          have hsb := szl_le n (r - 1)
          have HSZ : Hid (szl n (r - 1) = sz) := hsz
          rw [hsz] at hsb
          simp only [hsz]
          clear hsz
          obtain ⟨pr, hpr⟩ : ∃ pr, sz / 2 = pr := ⟨_, rfl⟩
          obtain ⟨C, hC⟩ : ∃ C, n + pr = C := ⟨_, rfl⟩
          obtain ⟨lv, hlv⟩ : ∃ lv : Nat, (M : Int) - 1 - (r : Int) = (lv : Int) := ⟨M - 1 - r, by omega⟩
          simp only [hlv]
          have c1 : ((sz : Nat) : Int) / 2 = (pr : Int) := by omega
          have c2 : Int.tdiv (sz : Int) 2 = (pr : Int) := by rw [Int.tdiv_eq_ediv_of_nonneg (by omega)]; omega
          have c3 : (n : Int) + (pr : Int) = (C : Int) := by omega
          have k1 := make_room 23 28 (.int .u64 0) 8 Try.underlying23 info28 rfl .i64 .i64 C (by omega) (by omega)
          have k2 := make_room 38 4 (.bool false) 1 Try.underlying38 info4 rfl .i64 .i64 C (by omega) (by omega)
          have M0 : Hid (MW wo ((wo.alloc (.cells (madeCells #[.int .u64 0] C) 28)).alloc (.cells (madeCells #[.bool false] C) 4)) wo.heap.size (wo.heap.size + 1) C (fun _ => 0) (fun _ => false)) :=
            ⟨((Below.refl _ _).alloc (Nat.le_refl _) _).alloc (by simp) _, (World.rowIs_made wo (.int .u64 0) C 28).alloc _, by
              have := World.rowIs_made (wo.alloc (.cells (madeCells #[.int .u64 0] C) 28)) (.bool false) C 4
              simp only [World.size_alloc] at this
              exact this, by omega, by omega, by omega⟩
          go_wp2
          clear k1 k2 c1 c2
          obtain ⟨V1, hV1⟩ : ∃ V1, wo.heap.size = V1 := ⟨_, rfl⟩
          have M1 := M0.out
          rw [hV1] at M1
          clear M0
          simp only [hV1]
          have HV1 : Hid (wo.heap.size = V1) := hV1
          have HPC : Hid (sz / 2 = pr ∧ n + pr = C) := ⟨hpr, hC⟩
          clear hV1 hpr hC
          have PWF : Hid ((∀ a, a < pr → 0 ≤ pwt (vv (M - r)) a) ∧ (∀ a b, a ≤ b → b < pr → pwt (vv (M - r)) a ≤ pwt (vv (M - r)) b)) := by
            have h1 := R.out.2.1.lv (M - r) (by omega) (by omega)
            rw [show M - 1 - (M - r) = r - 1 by omega, HSZ.out] at h1
            have h2 := h1.pwp
            have h3 := h1.pws
            rw [HPC.out.1] at h2 h3
            exact ⟨h2, h3⟩
          go_loopw [12, 13, 14, 15] (fun me fl iv jv wx => ∃ s : MS, iv = .int .i64 (s.i : Int) ∧ jv = .int .i64 (s.j : Int) ∧ me = .slice (some ⟨V1, 0, none⟩) (s.i + s.j) C ∧ fl = .slice (some ⟨V1 + 1, 0, none⟩) (s.i + s.j) C ∧ MI n (lwt L) pr (pwt (vv (M - r))) s ∧ MSum (lwt L) (pwt (vv (M - r))) s ∧ MW wo wx V1 (V1 + 1) C s.v s.f) (fun _ _ iv jv _ => (n - (intOf iv).toNat) + (pr - (intOf jv).toNat))
          case atStart =>
            refine ⟨⟨0, 0, _, _⟩, rfl, rfl, rfl, rfl, MI.start _ _, ?_, M1⟩
            show sm _ 0 = sm _ 0 + sm _ 0
            rfl
          case round =>
            obtain ⟨⟨i, j, v, f⟩, rfl, rfl, rfl, rfl, h1, h2, h3⟩ := hrel
            have S : Hid (MI n (lwt L) pr (pwt (vv (M - r))) ⟨i, j, v, f⟩ ∧ MSum (lwt L) (pwt (vv (M - r))) ⟨i, j, v, f⟩ ∧ MW wo wr V1 (V1 + 1) C v f) := ⟨h1, h2, h3⟩
            clear h1 h2 h3
            have hi : i ≤ n := S.out.1.hi
            have hj : j ≤ pr := S.out.1.hj
            have RV : Hid (wr.rowIs V 28 sz (fun i => .int .u64 (vv (M - r) i)) ∧ wr.rowIs Wb 28 n (fun i => .int .u64 (lwt L i))) := by
              have hb := S.out.2.2.bel
              have h1 := R.out.2.2.1
              rw [HSZ.out] at h1
              exact ⟨h1.of_block (hb.block _ h1.lt), R.out.1.ww.of_block (hb.block _ R.out.1.ww.lt)⟩
            by_cases hex : i < n ∨ j < pr
            · go_upto_region 17 with fail
              go_cut [80] from 73 to 139 (fun c wx => c = .bool true ∧ wx = wr)
              case first =>
                by_cases hin : i < n
                · have b1 : (i : Int) < (n : Int) := by omega
                  go_wp2
                  go_meet
                  exact ⟨rfl, rfl⟩
                · have b1 : ¬ (i : Int) < (n : Int) := by omega
                  have b2 : (j : Int) < (pr : Int) := by omega
                  go_wp2
                  go_meet
                  exact ⟨rfl, rfl⟩
              case' rest =>
                obtain ⟨rfl, hwc⟩ := hcut
                obtain rfl : wr = wc := hwc.symm
                go_upto_region 18 with fail
              go_cut [107] from 73 to 139 (fun c wx => (∃ nq, wx = wr.drewN nq) ∧ ∃ b, c = .bool b ∧ (b = true → i < n ∧ (j = pr ∨ lwt L i ≤ pwt (vv (M - r)) j)) ∧ (b = false → j < pr ∧ (i = n ∨ pwt (vv (M - r)) j < lwt L i)))
              case first =>
                by_cases hjp : j < pr
                · have b2 : ((j : Int) == (pr : Int)) = false := by simp; omega
                  by_cases hin : i < n
                  · have b1 : (i : Int) < (n : Int) := by omega
                    have g2 := RV.out.1.cell (i := 2 * j) (by have := HPC.out; omega)
                    have g3 := RV.out.1.cell (i := 2 * j + 1) (by have := HPC.out; omega)
                    have p1 : 2 * (j : Int) + 1 < (sz : Int) := by have := HPC.out; omega
                    have hsm : pwt (vv (M - r)) j ≤ 9187343239835811840 := hP.out.small R.out.2.1 (by omega) (by omega) (by rw [show M - 1 - (M - r) = r - 1 by omega, HSZ.out, HPC.out.1]; exact hjp)
                    have hps : 0 ≤ vv (M - r) (2 * j) ∧ 0 ≤ vv (M - r) (2 * j + 1) := by
                      have h1 := (R.out.2.1.lv (M - r) (by omega) (by omega)).pos
                      rw [show M - 1 - (M - r) = r - 1 by omega, HSZ.out] at h1
                      exact ⟨h1 _ (by omega), h1 _ (by omega)⟩
                    obtain ⟨x0, hx0⟩ : ∃ x, vv (M - r) (2 * j) = x := ⟨_, rfl⟩
                    obtain ⟨x1, hx1⟩ : ∃ x, vv (M - r) (2 * j + 1) = x := ⟨_, rfl⟩
                    have HX : Hid (pwt (vv (M - r)) j = x0 + x1) := by
                      show vv (M - r) (2 * j) + vv (M - r) (2 * j + 1) = _
                      rw [hx0, hx1]
                    rw [HX.out] at hsm
                    simp only [hx0] at g2 hps
                    simp only [hx1] at g3 hps
                    obtain ⟨p2, p3⟩ := hps
                    clear hx0 hx1
                    have g1 := RV.out.2.cell hin
                    have hlw := hP.out.lpos i hin
                    obtain ⟨y, hy⟩ : ∃ y, lwt L i = y := ⟨_, rfl⟩
                    have HY : Hid (lwt L i = y) := hy
                    simp only [hy] at g1 hlw
                    clear hy
                    by_cases hle : y ≤ x0 + x1
                    · have d1 : decide (y ≤ x0 + x1) = true := decide_eq_true hle
                      clear hex
                      go_wp2
                      go_quiet (fail)
                      rename_i nq
                      go_wp2
                      go_meet
                      refine ⟨⟨nq, rfl⟩, true, rfl, fun _ => ⟨hin, Or.inr ?_⟩, (fun h => absurd h (by decide))⟩
                      rw [HY.out, HX.out]; exact hle
                    · have d1 : decide (y ≤ x0 + x1) = false := decide_eq_false hle
                      clear hex
                      go_wp2
                      go_quiet (fail)
                      rename_i nq
                      go_wp2
                      go_meet
                      refine ⟨⟨nq, rfl⟩, false, rfl, (fun h => absurd h (by decide)), fun _ => ⟨hjp, Or.inr ?_⟩⟩
                      rw [HY.out, HX.out]; omega
                  · have b1 : ¬ (i : Int) < (n : Int) := by omega
                    clear hex
                    go_wp2
                    go_quiet (fail)
                    rename_i nq
                    go_wp2
                    go_meet
                    exact ⟨⟨nq, rfl⟩, false, rfl, (fun h => absurd h (by decide)), fun _ => ⟨hjp, Or.inl (by omega)⟩⟩
                · have b2 : ((j : Int) == (pr : Int)) = true := by simp; omega
                  have b1 : (i : Int) < (n : Int) := by omega
                  have hin : i < n := by omega
                  clear hex
                  go_wp2
                  go_quiet (fail)
                  rename_i nq
                  go_wp2
                  go_meet
                  exact ⟨⟨nq, rfl⟩, true, rfl, fun _ => ⟨hin, Or.inl (by omega)⟩, (fun h => absurd h (by decide))⟩
              case rest =>
                obtain ⟨hwc, bb, rfl, hbt, hbf⟩ := hcut
                have HSC : Hid (MW wo wc V1 (V1 + 1) C v f ∧ wc.rowIs V 28 sz (fun i => .int .u64 (vv (M - r) i)) ∧ wc.rowIs Wb 28 n (fun i => .int .u64 (lwt L i))) := by
                  obtain ⟨nq, rfl⟩ := hwc
                  exact ⟨S.out.2.2.drewN nq, RV.out.1.of_block rfl, RV.out.2.of_block rfl⟩
                clear hwc RV hex
                cases bb
                · obtain ⟨hjp, hcc⟩ := hbf rfl
                  clear hbt hbf
                  have NX : Hid (MI n (lwt L) pr (pwt (vv (M - r))) (putP (pwt (vv (M - r))) ⟨i, j, v, f⟩) ∧ MSum (lwt L) (pwt (vv (M - r))) (putP (pwt (vv (M - r))) ⟨i, j, v, f⟩)) :=
                    ⟨S.out.1.pair hP.out.ls PWF.out.1 PWF.out.2 hjp hcc, S.out.2.1.pair⟩
                  clear hcc
                  have g2 := HSC.out.2.1.cell (i := 2 * j) (by have := HPC.out; omega)
                  have g3 := HSC.out.2.1.cell (i := 2 * j + 1) (by have := HPC.out; omega)
                  have p1 : 2 * (j : Int) + 1 < (sz : Int) := by have := HPC.out; omega
                  have hsm : pwt (vv (M - r)) j ≤ 9187343239835811840 := hP.out.small R.out.2.1 (by omega) (by omega) (by rw [show M - 1 - (M - r) = r - 1 by omega, HSZ.out, HPC.out.1]; exact hjp)
                  have hps : 0 ≤ vv (M - r) (2 * j) ∧ 0 ≤ vv (M - r) (2 * j + 1) := by
                    have h1 := (R.out.2.1.lv (M - r) (by omega) (by omega)).pos
                    rw [show M - 1 - (M - r) = r - 1 by omega, HSZ.out] at h1
                    exact ⟨h1 _ (by omega), h1 _ (by omega)⟩
                  obtain ⟨x0, hx0⟩ : ∃ x, vv (M - r) (2 * j) = x := ⟨_, rfl⟩
                  obtain ⟨x1, hx1⟩ : ∃ x, vv (M - r) (2 * j + 1) = x := ⟨_, rfl⟩
                  have HX : Hid (pwt (vv (M - r)) j = x0 + x1) := by
                    show vv (M - r) (2 * j) + vv (M - r) (2 * j + 1) = _
                    rw [hx0, hx1]
                  rw [HX.out] at hsm
                  simp only [hx0] at g2 hps
                  simp only [hx1] at g3 hps
                  obtain ⟨p2, p3⟩ := hps
                  clear hx0 hx1
                  obtain ⟨w1, rfl⟩ : ∃ w1, w1 = wc := ⟨_, rfl⟩
                  have S1 := HSC.out.1
                  obtain ⟨Z, hZ⟩ : ∃ Z, w1.heap.size = Z := ⟨_, rfl⟩
                  have HZ : Hid (w1.heap.size = Z ∧ V1 < Z ∧ V1 + 1 < Z) := ⟨hZ, hZ ▸ S1.rv.lt, hZ ▸ S1.rg.lt⟩
                  have HS1 : Hid (MW wo w1 V1 (V1 + 1) C v f) := S1
                  have HLT : Hid (i + j < C) := by have := HPC.out; show i + j < C; omega
                  obtain ⟨J, hJ⟩ : ∃ J, 2 * j = J := ⟨_, rfl⟩
                  obtain ⟨J1, hJ1⟩ : ∃ J1, 2 * j + 1 = J1 := ⟨_, rfl⟩
                  have e1 : IntKind.i64.wrap (2 * (j : Int)) = (J : Int) := by rw [IntKind.wrap_i64]; omega
                  have e2 : IntKind.i64.wrap ((J : Int) + 1) = (J1 : Int) := by rw [IntKind.wrap_i64]; omega
                  have e3 : IntKind.u64.wrap (x0 + x1) = x0 + x1 := by rw [IntKind.wrap_u64]; omega
                  have e4 : (J : Int) < (sz : Int) := by omega
                  have e5 : (J1 : Int) < (sz : Int) := by omega
                  have hVw : V < Z := by
                    have h1 := R.out.2.2.1.lt
                    have h2 := S1.bel.size
                    omega
                  have g2' : w1.cell? ⟨V, J, none⟩ = some (.int .u64 x0) := by rw [← hJ]; exact g2
                  have g3' : w1.cell? ⟨V, J1, none⟩ = some (.int .u64 x1) := by rw [← hJ1]; exact g3
                  have g2a : (w1.alloc (.cells #[.bool false] 4)).cell? ⟨V, J, none⟩ = some (.int .u64 x0) := (World.cell?_alloc_past _ _ _ (by show V < w1.heap.size; omega)).trans g2'
                  have g3a : (w1.alloc (.cells #[.bool false] 4)).cell? ⟨V, J1, none⟩ = some (.int .u64 x1) := (World.cell?_alloc_past _ _ _ (by show V < w1.heap.size; omega)).trans g3'
                  clear g2 g3 hJ hJ1 hVw
                  clear S1
                  go_wp2
                  go_region_law (first
                    | (refine step_app rfl (.tmp 120) (.tmp 133) 23 rfl (s' := .slice (some ⟨V1, 0, none⟩) (i + j) C) (by simp [Act.eval]) (x' := .slice (some ⟨Z, 0, none⟩) 1 1) (by simp [Act.eval]) (MW.putV (x := x0 + x1) (by first | exact HS1.out.drew.alloc _ | exact (HS1.out.alloc _).drew | exact ((HS1.out.alloc _).alloc _).drew | exact ((HS1.out.alloc _).drew).alloc _) HLT.out (by first | exact cell_new _ _ _ HZ.out.1 | exact cell_new2 _ _ _ _ HZ.out.1) 1 _) ?_; rintro w2 q)
                    | (refine step_app rfl (.tmp 120) (.tmp 133) 23 rfl (s' := .slice (some ⟨V1, 0, none⟩) (i + j) C) (by simp [Act.eval]) (x' := .slice (some ⟨Z + 1, 0, none⟩) 1 1) (by simp [Act.eval]) (MW.putV (x := x0 + x1) (by first | exact ((HS1.out.alloc _).alloc _).drew | exact ((HS1.out.alloc _).drew).alloc _) HLT.out (by exact cell_new _ _ _ (by rw [World.size_alloc]; exact congrArg (· + 1) HZ.out.1)) 1 _) ?_; rintro w2 q)
                    | (refine step_app rfl (.tmp 135) (.tmp 136) 38 rfl (s' := .slice (some ⟨V1 + 1, 0, none⟩) (i + j) C) (by simp [Act.eval]) (x' := .slice (some ⟨w2.heap.size, 0, none⟩) 1 1) (by simp [Act.eval]) (MW.putG (x := false) (by exact q.1.alloc _) HLT.out (by exact cell_new _ _ _ rfl) 1 _) ?_; clear q; rintro w4 q)
                    | (refine step_app rfl (.tmp 135) (.tmp 136) 38 rfl (s' := .slice (some ⟨V1 + 1, 0, none⟩) (i + j) C) (by simp [Act.eval]) (x' := .slice (some ⟨Z + 1, 0, none⟩) 1 1) (by simp [Act.eval]) (MW.putG (x := false) (by exact q.1) HLT.out (by exact (q.2.cell (by have := HZ.out; omega)).trans (cell_new _ _ _ (by rw [World.size_alloc]; exact congrArg (· + 1) HZ.out.1))) 1 _) ?_; clear q; rintro w4 q)
                    | (refine step_app rfl (.tmp 135) (.tmp 136) 38 rfl (s' := .slice (some ⟨V1 + 1, 0, none⟩) (i + j) C) (by simp [Act.eval]) (x' := .slice (some ⟨Z, 0, none⟩) 1 1) (by simp [Act.eval]) (MW.putG (x := false) (by exact q.1) HLT.out (by exact (q.2.cell (by have := HZ.out; omega)).trans (cell_new2 _ _ _ _ HZ.out.1)) 1 _) ?_; clear q; rintro w4 q))
                  all_goals
                    have Q4 := q.1
                    clear q
                    have HQ4 : Hid (MW wo w4 V1 (V1 + 1) C (upd v (i + j) (x0 + x1)) (upd f (i + j) false)) := Q4
                    clear Q4
                    go_wp2
                    go_roundw
                    case rel =>
                      refine ⟨putP (pwt (vv (M - r))) ⟨i, j, v, f⟩, rfl, by show _ = Value.int .i64 ((j + 1 : Nat) : Int); go_num, rfl, rfl, NX.out.1, NX.out.2, ?_⟩
                      show MW wo w4 V1 (V1 + 1) C (upd v (i + j) (pwt (vv (M - r)) j)) (upd f (i + j) false)
                      rw [HX.out]
                      exact HQ4.out
                    case measure => simp [intOf]; omega
                · obtain ⟨hin, hcc⟩ := hbt rfl
                  clear hbt hbf
                  have NX : Hid (MI n (lwt L) pr (pwt (vv (M - r))) (putL (lwt L) ⟨i, j, v, f⟩) ∧ MSum (lwt L) (pwt (vv (M - r))) (putL (lwt L) ⟨i, j, v, f⟩)) :=
                    ⟨S.out.1.leaf hP.out.ls hP.out.lpos PWF.out.2 hin hcc, S.out.2.1.leaf⟩
                  clear hcc
                  have g1 := HSC.out.2.2.cell hin
                  obtain ⟨y, hy⟩ : ∃ y, lwt L i = y := ⟨_, rfl⟩
                  have HY : Hid (lwt L i = y) := hy
                  simp only [hy] at g1
                  clear hy
                  obtain ⟨w1, rfl⟩ : ∃ w1, w1 = wc := ⟨_, rfl⟩
                  obtain ⟨Z, hZ⟩ : ∃ Z, w1.heap.size = Z := ⟨_, rfl⟩
                  have HZ : Hid (w1.heap.size = Z) := hZ
                  have HS1 : Hid (MW wo w1 V1 (V1 + 1) C v f) := HSC.out.1
                  have HLT : Hid (i + j < C) := by have := HPC.out; show i + j < C; omega
                  have b1 : (i : Int) < (n : Int) := by omega
                  go_wp2_with (first
                    | (at_builtin; refine wpList_app rfl (.tmp 108) (.tmp 113) 23 rfl (s' := .slice (some ⟨V1, 0, none⟩) (i + j) C) (by simp [Act.eval]) (x' := .slice (some ⟨Z, 0, none⟩) 1 1) (by simp [Act.eval]) (MW.putV (x := y) (by exact HS1.out.alloc _) HLT.out (by exact cell_new _ _ _ HZ.out) 1 _) ?_; rintro w2 q)
                    | (at_builtin; refine wpList_app rfl (.tmp 115) (.tmp 116) 38 rfl (s' := .slice (some ⟨V1 + 1, 0, none⟩) (i + j) C) (by simp [Act.eval]) (x' := .slice (some ⟨w2.heap.size, 0, none⟩) 1 1) (by simp [Act.eval]) (MW.putG (x := true) (by exact q.1.alloc _) HLT.out (by exact cell_new _ _ _ rfl) 1 _) ?_; clear q; rintro w4 q))
                  have HQ4 : Hid (MW wo w4 V1 (V1 + 1) C (upd v (i + j) y) (upd f (i + j) true)) := q.1
                  clear q
                  go_roundw
                  case rel =>
                    refine ⟨putL (lwt L) ⟨i, j, v, f⟩, by show _ = Value.int .i64 ((i + 1 : Nat) : Int); go_num, rfl, by show Value.slice _ (i + j + 1) _ = Value.slice _ (i + 1 + j) _; rw [show i + j + 1 = i + 1 + j by omega], by show Value.slice _ (i + j + 1) _ = Value.slice _ (i + 1 + j) _; rw [show i + j + 1 = i + 1 + j by omega], NX.out.1, NX.out.2, ?_⟩
                    show MW wo w4 V1 (V1 + 1) C (upd v (i + j) (lwt L i)) (upd f (i + j) true)
                    rw [HY.out]
                    exact HQ4.out
                  case measure => simp [intOf]; omega
            · have b1 : ¬ (i : Int) < (n : Int) := by omega
              have b2 : ¬ (j : Int) < (pr : Int) := by omega
              have hlN : lv = M - 1 - r := by omega
              have eC : szl n r = C := by
                obtain ⟨q, rfl⟩ : ∃ q, r = q + 1 := ⟨r - 1, by omega⟩
                have h1 := HSZ.out
                rw [show q + 1 - 1 = q from rfl] at h1
                rw [szl_succ, h1, HPC.out.1, HPC.out.2]
              have eij : i + j = C := by have := HPC.out; omega
              have ZW : ZF w wr B Bo nl n ao av len L Wb Ib M r Fb ff := R.out.1.below (HV1.out ▸ S.out.2.2.bel)
              have f1 : wr.cell? ⟨Ib, lv, none⟩ = some (.slice none 0 0) := by
                have := ZW.il.cell (i := lv) (by omega)
                unfold ilv at this
                rw [if_neg (by omega)] at this
                exact this
              have f2 := ZW.il.frozen lv
              have NX : Hid (ZF w (wr.setCell ⟨Ib, lv, none⟩ (.slice (some ⟨V1 + 1, 0, none⟩) (i + j) C)) B Bo nl n ao av len L Wb Ib M (r + 1) (upd Fb lv (V1 + 1)) (upd ff lv f) ∧ CH n M (r + 1) (lwt L) (upd vv lv v) (upd ff lv f) ∧ (wr.setCell ⟨Ib, lv, none⟩ (.slice (some ⟨V1 + 1, 0, none⟩) (i + j) C)).rowIs V1 28 (szl n r) (fun a => .int .u64 (upd vv lv v (M - (r + 1)) a)) ∧ V1 ≠ Ib) := by
                have hI := R.out.1.il.lt
                have hw0 := R.out.1.ze.en.2.2.2
                rw [HV1.out] at hI hw0
                have z1 := ZW.lay (G := V1 + 1) (g := f) hrM (by rw [eC]; exact S.out.2.2.rg) (by omega) (by omega)
                rw [eC, ← hlN] at z1
                have c1 := R.out.2.1.step (s := ⟨i, j, v, f⟩) hr.1 hrM (by rw [HSZ.out, HPC.out.1]; exact S.out.1) S.out.2.1 (by show i = n; omega) (by show j = _; rw [HSZ.out, HPC.out.1]; omega)
                rw [← hlN] at c1
                refine ⟨by rw [eij]; exact z1, c1, ?_, by omega⟩
                rw [show M - (r + 1) = lv by omega, upd_same, eC]
                exact S.out.2.2.rv.setOther (show V1 ≠ Ib by omega) _
              have HeC : Hid (szl n r = C ∧ i + j = C) := ⟨eC, eij⟩
              clear ZW eC eij hlN
              go_wp2
              clear f1 f2
              go_roundw
              case rel =>
                refine ⟨r + 1, _, _, _, V1, by omega, ?_, ?_, NX.out.1, NX.out.2.1, NX.out.2.2.1, NX.out.2.2.2⟩
                · have e : (lv : Int) - 1 = (M : Int) - 1 - ((r + 1 : Nat) : Int) := by omega
                  rw [e]
                · show Value.slice _ (i + j) C = Value.slice _ (szl n r) (szl n r)
                  rw [HeC.out.1, HeC.out.2]
              case measure => simp [intOf] <;> omega
        · obtain rfl : r = M := by omega
          have hlv : (r : Int) - 1 - (r : Int) = -1 := by omega
          simp only [hlv]
          have R3 : Hid (ZF w wo B Bo nl n ao av len L Wb Ib r r Fb ff ∧ CH n r r (lwt L) vv ff) := ⟨R.out.1, R.out.2.1⟩
          clear hlv R hr hrM
          go_wp2
          go_loopw [16, 17] (fun tk lvv wr => ∃ (k x T : Nat) (τ : Int) (l : Nat → Nat) (len' : Nat → Int), tk = .int .i64 τ ∧ lvv = .int .i64 (k : Int) ∧ (τ ≤ (T : Int) ∧ (0 < T → τ = (T : Int))) ∧ DL n r k x T l ff ∧ LN n L len len' l ∧ ZF w wr B Bo nl n ao av len' L Wb Ib r r Fb ff) (fun _ lvv _ => r - (intOf lvv).toNat)
          case atStart =>
            exact ⟨0, n, 2 * n - 2, 2 * (n : Int) - 2, _, _, rfl, rfl, by omega, DL.start hP.out R3.out.2, LN.start hP.out, R3.out.1⟩
          case round =>
            obtain ⟨k', x, T, τ, l, len', rfl, rfl, hτ, hd, hl, hz⟩ := hrel
            have Q : Hid (DL n r k' x T l ff ∧ LN n L len len' l ∧ ZF w wr B Bo nl n ao av len' L Wb Ib r r Fb ff) := ⟨hd, hl, hz⟩
            clear hd hl hz
            obtain ⟨w4, rfl⟩ : ∃ w4, w4 = wr := ⟨_, rfl⟩
            by_cases ht : 0 < τ
            · obtain rfl : τ = (T : Int) := by omega
              have hT : 0 < T := by omega
              have hk : k' < r := by
                have h1 := Q.out.1.kM
                have h2 := Q.out.1.last
                omega
              obtain ⟨sz, hsz⟩ : ∃ sz, szl n (r - 1 - k') = sz := ⟨_, rfl⟩
              have hTs : T ≤ sz := by rw [← hsz]; exact (Q.out.1.fit hk).1
              have hsb := szl_le n (r - 1 - k')
              rw [hsz] at hsb
              have f1 : w4.cell? ⟨Ib, k', none⟩ = some (.slice (some ⟨Fb k', 0, none⟩) sz sz) := by
                have := Q.out.2.2.il.cell (i := k') hk
                unfold ilv at this
                rw [if_pos (by omega), hsz] at this
                exact this
              have FR : Hid (w4.rowIs (Fb k') 4 sz (fun i => .bool (ff k' i))) := by
                have := (Q.out.2.2.fr k' (by omega) hk).2.2
                rw [hsz] at this
                exact this
              have b1 : (k' : Int) < (r : Int) := by omega
              have b2 : (T : Int) ≤ (sz : Int) := by omega
              clear hsz
              go_wp2
              clear f1
              go_loopw [18, 159] (fun tn ix wr => ∃ a : Nat, a ≤ T ∧ ix = .int .i64 (a : Int) ∧ tn = .int .i64 ((ct (ff k') a : Nat) : Int) ∧ wr = w4) (fun _ ix _ => T - (intOf ix).toNat)
              case atStart => exact ⟨0, by omega, rfl, rfl, rfl⟩
              case round =>
                obtain ⟨a, ha, rfl, rfl, rfl⟩ := hrel
                by_cases haT : a < T
                · have g1 := FR.out.cell (i := a) (by omega)
                  have c0 := ct_le (ff k') a
                  have b3 : (a : Int) < (T : Int) := by omega
                  cases hf : ff k' a
                  · rw [hf] at g1
                    have NX : Hid (ct (ff k') (a + 1) = ct (ff k') a) := by
                      show ct (ff k') (a + 1) = _
                      rw [ct_succ, hf]; rfl
                    clear hf
                    go_wp2
                    go_roundw
                    case rel => exact ⟨a + 1, by omega, by go_num, by rw [NX.out], by first | rfl | trivial⟩
                    case measure => simp [intOf] <;> omega
                  · rw [hf] at g1
                    have NX : Hid (ct (ff k') (a + 1) = ct (ff k') a + 1) := by
                      show ct (ff k') (a + 1) = _
                      rw [ct_succ, hf]; rfl
                    clear hf
                    go_wp2
                    go_roundw
                    case rel => exact ⟨a + 1, by omega, by go_num, by rw [NX.out]; go_num, by first | rfl | trivial⟩
                    case measure => simp [intOf] <;> omega
                · obtain rfl : a = T := by omega
                  have hn2 : 2 ≤ n ∧ ct (ff k') a ≤ n := by
                    have h1 := (Q.out.1.fit hk).2
                    rcases Q.out.1.dn with ⟨e1, e2⟩ | ⟨e1, e2, e3⟩
                    · have := e2.xn; omega
                    · omega
                  have ct0 := ct_le (ff k') a
                  have DX : Hid (DL n r (k' + 1) (ct (ff k') a) (2 * (a - ct (ff k') a)) (grow l (ct (ff k') a)) ff) := DL.step hP.out R3.out.2 Q.out.1 hT
                  obtain ⟨t, ht'⟩ : ∃ t, ct (ff k') a = t := ⟨_, rfl⟩
                  rw [ht'] at hn2 ct0
                  have DX2 : Hid (DL n r (k' + 1) t (2 * (a - t)) (grow l t) ff) := by rw [← ht']; exact DX.out
                  simp only [ht']
                  clear DX ht' FR
                  have hnl : 0 < nl := by have := (hP.out.srt 0 (by omega)).1; omega
                  obtain ⟨Bv, rfl, v1, v2, v3, v4⟩ := Q.out.2.2.ze.lv (by omega)
                  obtain ⟨rfl, o1, o2⟩ := Q.out.2.2.ze.geo.2 hnl
                  have f1 := Q.out.2.2.ze.c2
                  have b3 : ¬ (a : Int) < (a : Int) := by omega
                  have b4 : (t : Int) ≤ (n : Int) := by omega
                  clear v4 v1 v2 v3 o1 o2
                  go_wp2
                  clear f1
                  go_loopw [174] (fun ix wr => ∃ (q : Nat) (len2 : Nat → Int), q ≤ t ∧ ix = .int .i64 (q : Int) ∧ LN n L len len2 (grow l q) ∧ ZF w wr B Bo nl n (some ⟨Bo, 0, none⟩) (some ⟨Bv, 0, none⟩) len2 L Wb Ib r r Fb ff) (fun ix _ => t - (intOf ix).toNat)
                  case atStart => exact ⟨0, len', by omega, rfl, by rw [grow_zero]; exact Q.out.2.1, Q.out.2.2⟩
                  case round =>
                    obtain ⟨q, len2, hq, rfl, hl, hz⟩ := hrel
                    have U : Hid (LN n L len len2 (grow l q) ∧ ZF w wr B Bo nl n (some ⟨Bo, 0, none⟩) (some ⟨Bv, 0, none⟩) len2 L Wb Ib r r Fb ff) := ⟨hl, hz⟩
                    clear hl hz
                    by_cases hqt : q < t
                    · have hqn : q < n := by omega
                      obtain ⟨Bv', eB, v1, v2, v3, v4⟩ := U.out.2.ze.lv (by omega)
                      obtain rfl : Bv = Bv' := by injection eB with eB; injection eB
                      have g1 := v4.cell hqn
                      have g2 := U.out.2.ze.c0
                      have l1 : 0 ≤ L q := (hP.out.rng q hqn).1
                      have l2 : L q ≤ 18446744073709551615 := (hP.out.rng q hqn).2
                      have hs := (hP.out.srt q hqn).1
                      have g3 := (U.out.2.ze.ll hnl).cell hs
                      have g4 := (U.out.2.ze.ll hnl).frozen (sN (L q))
                      have hr1 : 0 ≤ len2 (sN (L q)) ∧ len2 (sN (L q)) ≤ 255 := by
                        rw [U.out.1.on q hqn]; omega
                      have NX : Hid (LN n L len (upd len2 (sN (L q)) ((len2 (sN (L q)) + 1) % 256)) (grow l (q + 1)) ∧ ZF w (wr.setCell ⟨Bo, sN (L q), none⟩ (.int .u8 ((len2 (sN (L q)) + 1) % 256))) B Bo nl n (some ⟨Bo, 0, none⟩) (some ⟨Bv, 0, none⟩) (upd len2 (sN (L q)) ((len2 (sN (L q)) + 1) % 256)) L Wb Ib r r Fb ff) := ⟨LN.step hP.out.dst U.out.1 hqn, U.out.2.setL hnl _ _⟩
                      have b5 : (q : Int) < (t : Int) := by omega
                      have b6 : ((sN (L q) : Nat) : Int) < (nl : Int) := by omega
                      clear v4 v1 v2 v3 eB
                      go_wp2
                      go_region_with (go_at_call 33; refine (sym33 _ l1 l2 _).mono ?_; rintro e w' ⟨rfl, rfl⟩)
                      all_goals
                        go_wp2
                        go_roundw
                        case rel => exact ⟨q + 1, _, by omega, by go_num, NX.out.1, NX.out.2.drewN 1⟩
                        case measure => simp [intOf] <;> omega
                    · obtain rfl : q = t := by omega
                      have b5 : ¬ (q : Int) < (q : Int) := by omega
                      go_wp2
                      go_roundw
                      case rel =>
                        refine ⟨k' + 1, q, 2 * (a - q), 2 * ((a : Int) - (q : Int)), _, len2, ?_, by go_num, by omega, DX2.out, U.out.1, U.out.2⟩
                        go_num
                      case measure => simp [intOf] <;> omega
            · have ht0 : T = 0 := by
                rcases Nat.eq_zero_or_pos T with e | e
                · exact e
                · have := hτ.2 e; omega
              subst ht0
              go_wp2
              go_end0
              refine ⟨rfl, k', x, l, len', Q.out.2.2.ze, Q.out.2.1, Q.out.1.kM, ?_⟩
              rcases Q.out.1.dn with ⟨e1, e2⟩ | ⟨e1, _, e3⟩
              · exact Or.inl ⟨e1, e2⟩
              · exact Or.inr ⟨e1, e3⟩
end Go.Proofs.Qxb6601138a.Hf
