import Derived.Test.YbulkdmxaDoorFin
namespace Go.Proofs.YbulkdmxaDoor.Next
open Go.ChangeShapes Go.WideShapes Go.ChangeAt Go.RowKit Go.Conc
set_option linter.unusedSimpArgs false

set_option maxRecDepth 100000 in
set_option maxHeartbeats 1000000 in
theorem lawC (n0 c0 b0 o0 n1 c1 b1 o1 : Nat) (a0 a1 : Option Addr) (z : Nat → Nat) (x : Nat → Int) (rb : Int) (la : Bool) (w : World) (hn : n0 + n1 ≤ 1048576) (h0 : Hid (U8 w a0 n0 b0 o0 z)) (h1 : Hid (I64 w a1 n1 b1 o1 x)) :
    Calls Ybad.prog 3 #[.slice a0 n0 c0, .slice a1 n1 c1, .int .i64 rb, .bool la] w fun e w' => e = .returned (.bool true) ∧ Below w.heap.size w w' := by
  have t0 : decide ((1048576 : Int) < (n0 : Int) + (n1 : Int)) = false := decide_eq_false (by omega)
  obtain ⟨i0, hi, hz, hz1, hz2⟩ := info_parts info27
  have HI : Hid (_ ∧ _ ∧ _ ∧ _) := ⟨hi, hz, hz1, hz2⟩
  have hby0 : Hid (i0.bytes * n1 ≤ 281474976710656) := by unfold Hid; rw [hz2]; omega
  clear hi hz hz1 hz2
  go_enter Ybad.func3, Ybad.ntmps3
  go_wp2_with (at_make; refine wpList_make_full _ (by rfl) (.tmp 25) (.tmp 25) 24 (by rfl) w.heap.size 27 i0 (.agg #[.int .i64 0, .int .i64 0, .slice none 0 0]) 3 Ybad.underlying24 HI.out.1 HI.out.2.1 HI.out.2.2.1 .i64 .i64 (n1 : Int) (n1 : Int) n1 (by rfl) (by rfl) (by rfl) (by rfl) hby0.out (by unfold maxLen; omega) (Nat.le_refl _) ?_; intro w1 hown1 hgrow1)
  have HV : Hid (RBlk w1 w.heap.size n1) := rblk_made hown1
  have HB : Hid (Below w.heap.size w w1) := grown_below hgrow1
  clear hown1 hgrow1
  go_wp2
  go_loopw [29] (fun i wr => ∃ q : Nat, q ≤ n1 ∧ i = .int .i64 q ∧ Hid (Below w.heap.size w wr) ∧ Hid (RBlk wr w.heap.size n1)) (fun i _ => n1 - (intOf i).toNat)
  case atStart => exact ⟨0, by omega, rfl, HB, HV⟩
  case round =>
    obtain ⟨q, hq, rfl, hB, hV⟩ := hrel
    by_cases hlt : q < n1
    · obtain ⟨rfl, hbl, hbc⟩ := h1.out (by omega)
      have r0 := (hB.out.cell (by exact hbl)).trans (hbc q hlt)
      obtain ⟨y0, s0⟩ := hV.out.cells (show q * 3 < n1 * 3 by omega)
      obtain ⟨y1, s1⟩ := hV.out.cells (show q * 3 + 1 < n1 * 3 by omega)
      obtain ⟨y2, s2⟩ := hV.out.cells (show q * 3 + 2 < n1 * 3 by omega)
      have f0 := hV.out.fr (q * 3)
      have f1 := hV.out.fr (q * 3 + 1)
      have f2 := hV.out.fr (q * 3 + 2)
      have hq0 : (0 : Int) ≤ (q : Int) := by omega
      have hqn : (q : Int) < (n1 : Int) := by omega
      clear hbl hbc
      go_wp2
      go_roundw
      case rel => exact ⟨q + 1, by omega, by go_num, ((hB.out.setCell (by exact Nat.le_refl _) _).setCell (by exact Nat.le_refl _) _).setCell (by exact Nat.le_refl _) _, ((hV.out.set _ _).set _ _).set _ _⟩
      case measure => simp [intOf]; omega
    · obtain rfl : n1 = q := by omega
      rename World => W1
      clear HV HB
      go_wp2_with fail
      refine (write_any (rv := .slice (some ⟨w.heap.size, 0, none⟩) n1 n1) (rb := rb) (la := la) h0.out (by omega) hB.out).mono ?_
      rintro e W2 ⟨rfl, hb2, hs2, bo, bl, bc, lr, hbo, hp2⟩
      have hWR : w.heap.size < W1.heap.size := hV.out.lt
      have HB2 : Hid (Below W1.heap.size W1 W2) := ((Below.refl _ W1).alloc (Nat.le_refl _) _).trans hb2
      have HV2 : Hid (RBlk W2 w.heap.size n1) := hV.out.same (HB2.out.block _ hWR)
      have HP2 : Hid (W2.heap[W1.heap.size]? = some (.cells (partc (.slice bo bl bc) lr (.slice (some ⟨w.heap.size, 0, none⟩) n1 n1) rb la) 34 (0, 0))) := hp2
      have HBO : Hid (bo = none → bl = 0 ∧ bc = 0) := hbo
      clear hb2 hp2 hbo hV
      have hmc := mk2
      go_upto_region 12 with fail
      go_cut [14] (fun v wc => ∃ BB c5 c6, v = .pointer (some ⟨BB, 0, none⟩) ∧ Hid (Bt (W2.alloc (.cells (partc (.slice none 0 0) 0 (.slice none 0 0) 0 false) 34)) wc BB c5 c6))
      case first =>
        go_region
        · go_wp2
          go_meet
          case rel => exact ⟨W2.heap.size + 1 + 1 + 1, W2.heap.size + 1, W2.heap.size + 1 + 1, rfl, bt_mk (W := W2.alloc (.cells (partc (.slice none 0 0) 0 (.slice none 0 0) 0 false) 34)) (T := 42) (c5 := W2.heap.size + 1) (c6 := W2.heap.size + 1 + 1) (by simp) (Or.inl ⟨by simp, by simp⟩) (cs := #[.int .i64 0, .slice none 0 0, .slice none 0 0, .slice none 0 0, .nilIface, .chan (some (W2.heap.size + 1)), .chan (some (W2.heap.size + 1 + 1))]) rfl rfl _ rfl rfl rfl rfl⟩
        · go_wp2
          go_meet
          case rel => exact ⟨W2.heap.size + 1 + 1 + 1, W2.heap.size + 1 + 1, W2.heap.size + 1, rfl, bt_mk (W := W2.alloc (.cells (partc (.slice none 0 0) 0 (.slice none 0 0) 0 false) 34)) (T := 42) (c5 := W2.heap.size + 1 + 1) (c6 := W2.heap.size + 1) (by simp) (Or.inr ⟨by simp, by simp⟩) (cs := #[.int .i64 0, .slice none 0 0, .slice none 0 0, .slice none 0 0, .nilIface, .chan (some (W2.heap.size + 1 + 1)), .chan (some (W2.heap.size + 1))]) rfl rfl _ rfl rfl rfl rfl⟩
      case rest =>
        obtain ⟨BB, c5, c6, rfl, hBt⟩ := hcut
        clear hmc
        have lc6 : c6 < wc.heap.size := (Array.getElem?_eq_some_iff.1 hBt.out.h6).1
        have e6 := hBt.out.e6
        have nBt := hBt.out.ne
        have HFa : Hid (Fr (fun k => k = c6) wc (wc.setChan c6 2 #[.pointer (some ⟨W1.heap.size, 0, none⟩)] false 1 0 false)) := (Fr.refl (fun k => k = c6) wc).chan (c := c6) rfl _ _ _ _ _ _
        have HCa : Hid ((wc.setChan c6 2 #[.pointer (some ⟨W1.heap.size, 0, none⟩)] false 1 0 false).heap[c6]? = some (.chan 2 #[.pointer (some ⟨W1.heap.size, 0, none⟩)] false 1 0 false)) := chan_self wc _ _ _ _ _ _ _ lc6
        go_upto_region 13 with fail
        refine wpi_region [0, 1, 2, 3, 4, 5] (by rfl) ?_
        refine wpi_value (by rfl) (by rfl) (.pointer (some ⟨BB, 0, none⟩)) (by go_simp) ?_
        refine wpi_value (by rfl) (by rfl) (.pointer (some ⟨BB, 0, none⟩)) (by go_simp) ?_
        refine wpi_value (by rfl) (by rfl) (.pointer (some ⟨BB, 6, none⟩)) (by go_simp) ?_
        refine wpi_value (by rfl) (by rfl) (.chan (some c6)) (by go_simp) ?_
        refine wpi_value (by rfl) (by rfl) (.pointer (some ⟨W1.heap.size, 0, none⟩)) (by go_simp) ?_
        refine wpi_send (by rfl) (by rfl) (.tmp 60) (.tmp 61) (by rfl) c6 2 #[] 0 0 (.pointer (some ⟨W1.heap.size, 0, none⟩)) (by rfl) (by rfl) hBt.out.h6 (by simp) ?_
        refine wpi_nil ?_
        walk_nrm
        show Exit.then _ _ Exit.normal _ (wc.setChan c6 2 #[.pointer (some ⟨W1.heap.size, 0, none⟩)] false 1 0 false)
        generalize wc.setChan c6 2 #[.pointer (some ⟨W1.heap.size, 0, none⟩)] false 1 0 false = Wa at *
        have e6a := HFa.out.cell e6 (by exact nBt.2.2.1)
        have lc6a : c6 < Wa.heap.size := (Array.getElem?_eq_some_iff.1 HCa.out).1
        have HFb : Hid (Fr (fun k => k = c6) wc (Wa.setChan c6 2 #[.pointer (some ⟨W1.heap.size, 0, none⟩), .pointer (some ⟨W2.heap.size, 0, none⟩)] false 2 0 false)) := HFa.out.chan (c := c6) rfl _ _ _ _ _ _
        have HCb : Hid ((Wa.setChan c6 2 #[.pointer (some ⟨W1.heap.size, 0, none⟩), .pointer (some ⟨W2.heap.size, 0, none⟩)] false 2 0 false).heap[c6]? = some (.chan 2 #[.pointer (some ⟨W1.heap.size, 0, none⟩), .pointer (some ⟨W2.heap.size, 0, none⟩)] false 2 0 false)) := chan_self Wa _ _ _ _ _ _ _ lc6a
        go_upto_region 14 with fail
        refine wpi_region [0, 1, 2, 3, 4, 5] (by rfl) ?_
        refine wpi_value (by rfl) (by rfl) (.pointer (some ⟨BB, 0, none⟩)) (by go_simp) ?_
        refine wpi_value (by rfl) (by rfl) (.pointer (some ⟨BB, 0, none⟩)) (by go_simp) ?_
        refine wpi_value (by rfl) (by rfl) (.pointer (some ⟨BB, 6, none⟩)) (by go_simp) ?_
        refine wpi_value (by rfl) (by rfl) (.chan (some c6)) (by go_simp) ?_
        refine wpi_value (by rfl) (by rfl) (.pointer (some ⟨W2.heap.size, 0, none⟩)) (by go_simp) ?_
        refine wpi_send (by rfl) (by rfl) (.tmp 65) (.tmp 66) (by rfl) c6 2 #[.pointer (some ⟨W1.heap.size, 0, none⟩)] 1 0 (.pointer (some ⟨W2.heap.size, 0, none⟩)) (by rfl) (by rfl) HCa.out (by simp) ?_
        refine wpi_nil ?_
        walk_nrm
        show Exit.then _ _ Exit.normal _ (Wa.setChan c6 2 #[.pointer (some ⟨W1.heap.size, 0, none⟩), .pointer (some ⟨W2.heap.size, 0, none⟩)] false 2 0 false)
        clear e6a lc6a
        generalize Wa.setChan c6 2 #[.pointer (some ⟨W1.heap.size, 0, none⟩), .pointer (some ⟨W2.heap.size, 0, none⟩)] false 2 0 false = Wb at *
        have e6b := HFb.out.cell e6 (by exact nBt.2.2.1)
        clear e6 HFa HCa lc6
        obtain ⟨q1, q2, ⟨cur, q3, q3'⟩, q4, q5, q6, q7, q8, q9⟩ := ahead hB.out hWR hs2 HB2.out HV2.out HP2.out hBt.out HFb.out
        have HA : Hid (_ ∧ _ ∧ _ ∧ _ ∧ _ ∧ _ ∧ _) := ⟨q1, q4, q5, q6, q7, q8, q9⟩
        have HPb : Hid (Wb.heap[W1.heap.size]? = some (.cells (partc (.slice bo bl bc) lr (.slice (some ⟨w.heap.size, 0, none⟩) n1 n1) rb la) 34 (0, 0))) := q2
        have HRb : Hid (Wb.heap[w.heap.size]? = some (.cells cur 27 (0, 0)) ∧ cur.size = n1 * 3) := ⟨q3, q3'⟩
        clear q1 q2 q3 q3' q4 q5 q6 q7 q8 q9 HB2 HV2 HP2 HFb
        go_wp2_with fail
        refine (next_any BB c6 W1.heap.size 2 0 n1 _ w.heap.size bo bl bc lr rb la cur Wb e6b HCb HBO HPb HRb HA.out.2.2.2.2.2.1).mono ?_
        rintro e W9 ⟨rfl, hnx⟩
        have HFin : Hid (Fin w W9 W1.heap.size w.heap.size W2.heap.size BB c5 c6 n1 bc 2 1 bo) := fin_mk HA.out.1 HA.out.2.1 HA.out.2.2.1 HA.out.2.2.2.1 HA.out.2.2.2.2.1 (by have := HA.out.2.2.2.2.2; omega) hnx
        have hne : Hid (W2.heap.size ≠ c6 ∧ w.heap.size ≤ c6) := by have := HA.out.2.2.2.2.2; exact ⟨by omega, by omega⟩
        clear hnx HPb HRb HCb e6b hBt HA
        generalize W1.heap.size = PB at *
        generalize W2.heap.size = P2 at *
        have nq := neq_same
        obtain ⟨p0, p1, p2, p3, p4, p5⟩ := part_0 HFin.out.part
        go_wp2_with fail
        refine (len_any PB bo 0 bc W9 (by simp) p0 p1).mono ?_
        rintro e w10 ⟨rfl, m1, rfl⟩
        have nq25 := fun (w : World) (a : Option Addr) (n c n' c' : Nat) => run_neq_slice_nil_any (P := Ybad.prog) w 25 _ a n c n' c' Ybad.underlying25
        have nq24 := fun (w : World) (a : Option Addr) (n c n' c' : Nat) => run_neq_slice_nil_any (P := Ybad.prog) w 24 _ a n c n' c' Ybad.underlying24
        go_wp2_with fail
        go_loopw [110] (fun i wr => ∃ q : Nat, q ≤ n1 ∧ i = .int .i64 q ∧ wr = W9.drewN m1) (fun i _ => n1 - (intOf i).toNat)
        case atStart => exact ⟨0, by omega, rfl, rfl⟩
        case round =>
          obtain ⟨q, hq, rfl, rfl⟩ := hrel
          by_cases hlt : q < n1
          · obtain ⟨r0, r1, r2⟩ := zrow_cells HFin.out.row hlt
            have hq0 : (0 : Int) ≤ (q : Int) := by omega
            have hqn : (q : Int) < (n1 : Int) := by omega
            go_wp2
            go_roundw
            case rel => exact ⟨q + 1, by omega, by go_num, trivial⟩
            case measure => simp [intOf]; omega
          · have e5 := HFin.out.e5
            have e6 := HFin.out.e6
            have l5 := fun m ty => run_len_chan (P := Ybad.prog) (w := W9.drewN m) 40 ty Ybad.underlying40 HFin.out.h5
            have l6 := fun m ty => run_len_chan (P := Ybad.prog) (w := W9.drewN m) 40 ty Ybad.underlying40 HFin.out.h6
            have L5 : Hid (∀ m ty, _) := l5
            have L6 : Hid (∀ m ty, _) := l6
            clear l5 l6
            go_upto_region 28 with (first | rw [L6.out] | rw [L5.out])
            refine wpi_region [0, 1, 2, 3, 4, 5] (by rfl) ?_
            refine wpi_value (by rfl) (by rfl) (.pointer (some ⟨BB, 0, none⟩)) (by go_simp) ?_
            refine wpi_value (by rfl) (by rfl) (.pointer (some ⟨BB, 0, none⟩)) (by go_simp) ?_
            refine wpi_value (by rfl) (by rfl) (.pointer (some ⟨BB, 6, none⟩)) (by go_simp) ?_
            refine wpi_value (by rfl) (by rfl) (.chan (some c6)) (by go_simp) ?_
            refine wpi_recv (by rfl) (by rfl) 40 (.tmp 153) (by rfl) _ 28 Ybad.underlying40 (.pointer none) (by go_simp) c6 2 #[.pointer (some ⟨P2, 0, none⟩)] 2 1 (by rfl) HFin.out.h6 (by simp) ?_
            refine wpi_value (by rfl) (by rfl) (.pointer (some ⟨P2, 0, none⟩)) (by go_simp) ?_
            refine wpi_nil ?_
            walk_nrm
            have HZ : Hid (Fr (fun k => k = c6) (W9.drewN m1) ((W9.drewN m1).setChan c6 2 #[] false 2 2 false)) := (Fr.refl (fun k => k = c6) (W9.drewN m1)).chan (c := c6) rfl _ _ _ _ _ _
            show Exit.then _ _ Exit.normal _ ((W9.drewN m1).setChan c6 2 #[] false 2 2 false)
            generalize (W9.drewN m1).setChan c6 2 #[] false 2 2 false = Wz at *
            have HPz : Hid (Wz.heap[P2]? = some (.cells (partc (.slice none 0 0) 0 (.slice none 0 0) 0 false) 34 (0, 0))) := HZ.out.at HFin.out.part2 hne.out.1
            have HBz : Hid (Below w.heap.size w Wz) := fr_below HFin.out.bel HZ.out hne.out.2
            clear p0 p1 p2 p3 p4 p5 e5 e6 L5 L6
            obtain ⟨p0, p1, p2, p3, p4, p5⟩ := part_0 HPz.out
            go_wp2_with fail
            refine (len_any P2 none 0 0 Wz (by simp) p0 p1).mono ?_
            rintro e w11 ⟨rfl, m2, rfl⟩
            go_wp2
            go_ret
            exact ⟨rfl, HBz.out.os, HBz.out.tape, HBz.out.output, HBz.out.size, HBz.out.block⟩

set_option maxRecDepth 100000 in
set_option maxHeartbeats 1000000 in
theorem lawC_big (n0 c0 n1 c1 : Nat) (a0 a1 : Option Addr) (rb : Int) (la : Bool) (w : World) (m0 : n0 ≤ 140737488355328) (m1 : n1 ≤ 140737488355328) (h : 1048576 < n0 + n1) :
    Calls Ybad.prog 3 #[.slice a0 n0 c0, .slice a1 n1 c1, .int .i64 rb, .bool la] w fun e w' => e = .returned (.bool true) ∧ Below w.heap.size w w' := by
  have t0 : decide ((1048576 : Int) < (n0 : Int) + (n1 : Int)) = true := decide_eq_true (by omega)
  go_enter Ybad.func3, Ybad.ntmps3
  go_wp2
  go_ret
  exact ⟨rfl, Below.refl _ _⟩
end Go.Proofs.YbulkdmxaDoor.Next
