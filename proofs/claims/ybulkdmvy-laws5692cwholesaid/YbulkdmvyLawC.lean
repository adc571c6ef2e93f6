import Derived.Test.YbulkdmvyPost
namespace Go.Proofs.Ybulkdmvy.Lift
open Go.ChangeShapes Go.WideShapes Go.ChangeAt Go.RowKit
set_option linter.unusedSimpArgs false

set_option maxRecDepth 100000 in
set_option maxHeartbeats 1000000 in
theorem lawC (n0 c0 b0 o0 n1 c1 b1 o1 : Nat) (a0 a1 : Option Addr) (H L Z TH TL : Nat → Nat) (vh vl : Nat) (w : World) (hn0 : n0 ≤ 4096) (hn1 : n1 ≤ 4096) (h0 : Hid (CIn w a0 n0 b0 o0 H L)) (h1 : Hid (LIn w a1 n1 b1 o1 Z TH TL)) :
    Calls Yba.prog 3 #[.slice a0 n0 c0, .slice a1 n1 c1, .int .u64 (vh : Int), .int .u64 (vl : Int)] w fun e w' => e = .returned (.bool true) ∧ Below w.heap.size w w' := by
  have t0 : decide ((4096 : Int) < (n0 : Int)) = false := decide_eq_false (by omega)
  have t1 : decide ((4096 : Int) < (n1 : Int)) = false := decide_eq_false (by omega)
  obtain ⟨i0, hi, hz0, hz1, hz2⟩ := info_parts info29
  have HI : Hid (_ ∧ _ ∧ _ ∧ _) := ⟨hi, hz0, hz1, hz2⟩
  have hby0 : Hid (i0.bytes * n0 ≤ 281474976710656) := by unfold Hid; rw [hz2]; omega
  obtain ⟨j0, hj, hjz, hjs, hjb⟩ := info_parts info35
  have HJ : Hid (_ ∧ _ ∧ _ ∧ _) := ⟨hj, hjz, hjs, hjb⟩
  have hby1 : Hid (j0.bytes * n1 ≤ 281474976710656) := by unfold Hid; rw [hjb]; omega
  clear hi hz0 hz1 hz2 hj hjz hjs hjb
  go_enter Yba.func3, Yba.ntmps3
  go_wp2_with (at_make; refine wpList_make_full _ (by rfl) (.tmp 36) (.tmp 36) 25 (by rfl) w.heap.size 29 i0 (.agg #[.int .u64 0, .int .u64 0]) 2 Yba.underlying25 HI.out.1 HI.out.2.1 HI.out.2.2.1 .i64 .i64 (n0 : Int) (n0 : Int) n0 (by rfl) (by rfl) (by rfl) (by rfl) hby0.out (by unfold maxLen; omega) (Nat.le_refl _) ?_; intro w1 hown1 hgrow1)
  have HV : Hid (VBlk w1 w.heap.size n0 0 H L) := vblk_made hown1
  have HB : Hid (Below w.heap.size w w1) := grown_below hgrow1
  clear hown1 hgrow1
  go_wp2
  go_loopw [10] (fun i wr => ∃ q : Nat, q ≤ n0 ∧ i = .int .i64 q ∧ Hid (Below w.heap.size w wr) ∧ Hid (VBlk wr w.heap.size n0 q H L)) (fun i _ => n0 - (intOf i).toNat)
  case atStart => exact ⟨0, by omega, rfl, HB, HV⟩
  case round =>
    obtain ⟨q, hq, rfl, hB, hV⟩ := hrel
    by_cases hlt : q < n0
    · obtain ⟨rfl, hbl, hbc⟩ := h0.out (by omega)
      obtain ⟨x0, x1⟩ := hbc q hlt
      have r0 := (hB.out.cell (by exact hbl)).trans x0
      have r1 := (hB.out.cell (by exact hbl)).trans x1
      obtain ⟨y0, r2⟩ := hV.out.some (show q * 2 < n0 * 2 by omega)
      obtain ⟨y1, r3⟩ := hV.out.some (show q * 2 + 1 < n0 * 2 by omega)
      have f0 := hV.out.fr (q * 2)
      have f1 := hV.out.fr (q * 2 + 1)
      have hq0 : (0 : Int) ≤ (q : Int) := by omega
      have hqn : (q : Int) < (n0 : Int) := by omega
      have R1 : Hid (Below w.heap.size w ((wr.drew.setCell ⟨w.heap.size, q * 2, none⟩ (.int .u64 (H q : Int))).setCell ⟨w.heap.size, q * 2 + 1, none⟩ (.int .u64 (L q : Int)))) := (hB.out.drew.setCell (by exact Nat.le_refl _) _).setCell (by exact Nat.le_refl _) _
      have R2 : Hid (VBlk ((wr.drew.setCell ⟨w.heap.size, q * 2, none⟩ (.int .u64 (H q : Int))).setCell ⟨w.heap.size, q * 2 + 1, none⟩ (.int .u64 (L q : Int))) w.heap.size n0 (q + 1) H L) := VBlk.set (w := wr.drew) hV.out hlt rfl rfl (fun j hj hne => ⟨by omega, rfl, rfl⟩)
      clear x0 x1 hbl hbc
      go_wp2
      go_region
      all_goals
        clear r0 r1 r2 r3 f0 f1
        go_wp2
        go_roundw
        case rel => exact ⟨q + 1, by omega, by go_num, R1, R2⟩
        case measure => simp [intOf]; omega
    · obtain rfl : n0 = q := by omega
      rename World => W1
      clear HV HB
      go_wp2_with (at_make; refine wpList_make_own _ (by rfl) (.const (.int .i64 0)) (.tmp 59) 30 (by rfl) W1.heap.size 35 j0 (.agg #[.int .i64 0, .int .u64 0, .int .u64 0]) 3 Yba.underlying30 HJ.out.1 HJ.out.2.1 HJ.out.2.2.1 .i64 .i64 (n1 : Int) n1 (by rfl) (by rfl) (by rfl) hby1.out (by unfold maxLen; omega) (Nat.le_refl _) ?_; intro w3 hown1 hgrow1)
      have HB3 : Hid (Below W1.heap.size W1 w3) := grown_below hgrow1
      have HL3 : Hid (LS w3 W1.heap.size (.slice (some ⟨W1.heap.size, 0, none⟩) 0 n1) 0 (runN Z n0) TH TL) := ls_start hown1 rfl
      clear hown1 hgrow1
      go_loopw [11, 12, 13] (fun v r k wr => ∃ p : Nat, p ≤ n1 ∧ k = .int .i64 p ∧ r = .int .i64 (remN Z n0 p : Nat) ∧ Hid (Below W1.heap.size W1 wr) ∧ Hid (LS wr W1.heap.size v p (runN Z n0) TH TL)) (fun _ _ k _ => n1 - (intOf k).toNat)
      case atStart => exact ⟨0, by omega, rfl, rfl, HB3, HL3⟩
      case round =>
        obtain ⟨p, hp, rfl, rfl, hB3, hL3⟩ := hrel
        by_cases hlt : p < n1
        · obtain ⟨rfl, hbl, hbc⟩ := h1.out (by omega)
          obtain ⟨⟨x0, xz⟩, x1, x2⟩ := hbc p hlt
          have hW1 := hB.out.size
          have hBel : Below w.heap.size w wr := hB.out.trans (hB3.out.mono hW1)
          have r0 := (hBel.cell (by exact hbl)).trans x0
          have r1 := (hBel.cell (by exact hbl)).trans x1
          have r2 := (hBel.cell (by exact hbl)).trans x2
          have hrem : remN Z n0 p ≤ n0 := by have := remN_offs Z n0 p; omega
          have hz1 : (Z p : Int) % ((remN Z n0 p : Int) + 1) ≤ (remN Z n0 p : Int) := by have := Int.emod_lt_of_pos (Z p : Int) (show (0 : Int) < (remN Z n0 p : Int) + 1 by omega); omega
          have hz0 : 0 ≤ (Z p : Int) % ((remN Z n0 p : Int) + 1) := Int.emod_nonneg _ (by omega)
          have hp0 : (0 : Int) ≤ (p : Int) := by omega
          have hpn : (p : Int) < (n1 : Int) := by omega
          obtain ⟨xs, hown, hx1, hxv⟩ := hL3.out
          have HX : Hid (_ ∧ _ ∧ _) := ⟨hown, hx1, hxv⟩
          clear hown hx1 hxv hbc x0 x1 x2 hBel
          go_wp2
          go_region_law
            (refine step_append_lies _ (by rfl) (.tmp 83) (.tmp 99) 30 (by rfl) W1.heap.size 35 j0 (.agg #[.int .i64 0, .int .u64 0, .int .u64 0]) 3 24 Yba.underlying30 HJ.out.1 HJ.out.2.1 HJ.out.2.2.1 HJ.out.2.2.2 (by rfl) (by decide) u11 p xs (by rfl) ((owns_drew HX.out.1).alloc _) ⟨wr.heap.size, 0, none⟩ 1 1 [.int .i64 ((Z p : Int) % ((remN Z n0 p : Int) + 1)), .int .u64 (TH p : Int), .int .u64 (TL p : Int)] (by rfl) (by rfl) (World.news_of_block (heap_alloc_new wr.drew _)) (by intro u hu; simp at hu; rcases hu with rfl | rfl | rfl <;> rfl) (by decide) (by unfold maxLen; omega) (by omega) (by have := hB3.out.size; simp; omega) (wr.heap.size + 1) (by simp) ?_; intro gB cap w4 hown hgrow hat hlt1)
          all_goals
            have R1 : Hid (Below W1.heap.size W1 w4) := step_bel hB3.out hB3.out.size (fun b e => (HX.out.1.lt b e).1) hgrow
            have R2 : Hid (LS w4 W1.heap.size (.slice (some ⟨gB, 0, none⟩) (p + 1) cap) (p + 1) (runN Z n0) TH TL) := ls_step (by simp [runN]) HX.out.1.1 HX.out.2.1 HX.out.2.2 hown
            clear hown hgrow hat hlt1 r0 r1 r2
            go_wp2
            go_roundw
            case rel => exact ⟨p + 1, by omega, by go_num, by rw [rem_cast], R1, R2⟩
            case measure => simp [intOf]; omega
        · obtain rfl : p = n1 := by omega
          rename World => W2
          clear HB3 HL3
          have HV2 : Hid (VBlk W2 w.heap.size n0 n0 H L) := hV.out.same (hB3.out.block _ hV.out.lt)
          have HW2 : Hid (Below w.heap.size w W2) := hB.out.trans (hB3.out.mono hB.out.size)
          obtain ⟨lo, LB, lc, rfl, hLr, hLB⟩ := ls_row hL3.out
          have HLB : Hid (LRow W2 lo p LB (runN Z n0) TH TL ∧ W1.heap.size ≤ LB) := ⟨hLr, hLB⟩
          have hsB : Hid (w.heap.size < W1.heap.size) := hV.out.lt
          clear hLr hLB hV
          go_wp2_with fail
          refine (clone25 w.heap.size n0 H L W2 hn0 HV2).mono ?_
          rintro e W3 ⟨co, CB, cc, rfl, hb3, hv3, hcb⟩
          have HB3 : Hid (Below W2.heap.size W2 W3) := hb3
          have HV3 : Hid (VRow W3 co n0 CB H L ∧ W2.heap.size ≤ CB) := ⟨hv3, hcb⟩
          clear hb3 hv3 hcb
          go_wp2_with fail
          refine (clone30 p W1.heap.size _ (runN Z n0) TH TL W3 hn1 (hL3.out.below HB3.out)).mono ?_
          rintro e W4 ⟨mo, MB, mc, rfl, hb4, hv4, hmb⟩
          have HB4 : Hid (Below W3.heap.size W3 W4) := hb4
          have HV4 : Hid (LRow W4 mo p MB (runN Z n0) TH TL ∧ W3.heap.size ≤ MB) := ⟨hv4, hmb⟩
          clear hb4 hv4 hmb
          have hoff : offs (runN Z n0) p ≤ n0 := by have := remN_offs Z n0 p; omega
          go_wp2_with fail
          have HP' := pre_mk (lc := lc) (cc := cc) (mc := mc) (vh := vh) (vl := vl) (cs := #[Value.string ⟨#[102]⟩, .slice none 0 0, .int .i64 0, .int .u64 (vh : Int), .int .u64 (vl : Int), .int .i64 0, .int .i64 0, .int .i64 0, .int .u64 0, .int .i64 0, .int .i64 0, .int .i64 0, .int .i64 0, .int .u64 0, .int .u64 0, .slice (some ⟨w.heap.size, 0, none⟩) n0 n0, .slice lo p lc, .int .i64 0, .int .i64 0, .pointer none, .pointer none, .pointer none, .int .u64 0, .pointer none, .pointer none, .pointer none, .int .u64 0, .pointer none, .pointer none, .pointer none, .int .u64 0]) HW2.out HV2.out hsB.out HLB.out HB3.out HV3.out HB4.out HV4.out rfl rfl rfl rfl
          refine (lift_any (W4.heap.size + 1) w.heap.size LB n0 p lc lo H L (runN Z n0) TH TL vh vl _ hn0 hn1 hoff HP'.hc HP'.hl HP'.blk HP'.ll (by have := HP'.nF; omega) (fun h => by have := HP'.nL h; omega) HP'.v0 HP'.v1 (HP'.fr 3) (HP'.fr 4)).mono ?_
          rintro e W6 ⟨w1', rfl, hk6, hv6, rfl⟩
          have HQ := post_mk (b := moved n0 (E H L (runN Z n0) TH TL p 0) vh vl) (e := E H L (runN Z n0) TH TL p 0) HP' hk6 hv6
          generalize endW (moved n0 (E H L (runN Z n0) TH TL p 0) vh vl) w1' (W4.heap.size + 1) (E H L (runN Z n0) TH TL p 0) = W6 at HQ ⊢
          have HQ' : Hid (Post w W6 _ _ _ _ _ _ _ _ _ _ _ _ _ _ _ _ _ _ _ _ _ _) := HQ
          clear HP' HQ hk6 hv6 HLB HV3 HV4 HB3 HB4 HV2 HW2 hL3 hB3
          generalize W4.heap.size + 1 = FB at *
          generalize W4.heap.size = VB at *
          go_wp2_with (at_make; refine wpList_make_full _ (by rfl) (.tmp 116) (.tmp 116) 25 (by rfl) W6.heap.size 29 i0 (.agg #[.int .u64 0, .int .u64 0]) 2 Yba.underlying25 HI.out.1 HI.out.2.1 HI.out.2.2.1 .i64 .i64 (n0 : Int) (n0 : Int) n0 (by rfl) (by rfl) (by rfl) (by rfl) hby0.out (by unfold maxLen; omega) (Nat.le_refl _) ?_; intro w7 hown1 hgrow1)
          have HV7 : Hid (VBlk w7 W6.heap.size n0 0 (fun k => (E H L (runN Z n0) TH TL p k).1) (fun k => (E H L (runN Z n0) TH TL p k).2)) := vblk_made hown1
          have HB7 : Hid (Below W6.heap.size W6 w7) := grown_below hgrow1
          clear hown1 hgrow1 t0 t1 hby0 hby1 HI HJ hsB hB h0 h1
          go_loopw [21] (fun i wr => ∃ q : Nat, q ≤ n0 ∧ i = .int .i64 q ∧ Hid (Below W6.heap.size W6 wr) ∧ Hid (VBlk wr W6.heap.size n0 q (fun k => (E H L (runN Z n0) TH TL p k).1) (fun k => (E H L (runN Z n0) TH TL p k).2))) (fun i _ => n0 - (intOf i).toNat)
          case atStart => exact ⟨0, by omega, rfl, HB7, HV7⟩
          case round =>
            obtain ⟨q, hq, rfl, hB7, hV7⟩ := hrel
            have P := HQ'.out.keep hB7.out
            by_cases hlt : q < n0
            · obtain ⟨rfl, hcc⟩ := P.cb (by omega)
              obtain ⟨x0, x1⟩ := hcc q hlt
              have HPA : Hid (Post w (wr.alloc (.cells #[.int .u64 (H q : Int), .int .u64 (L q : Int)] 29)) _ _ _ _ _ _ _ _ _ _ _ _ _ _ _ _ _ _ _ _ _ _) := P.keep ((Below.refl _ wr).alloc (Nat.le_refl _) _)
              have HBA : Hid (Below W6.heap.size W6 (wr.alloc (.cells #[.int .u64 (H q : Int), .int .u64 (L q : Int)] 29))) := hB7.out.alloc (hB7.out.size) _
              have HVA : Hid (VBlk (wr.alloc (.cells #[.int .u64 (H q : Int), .int .u64 (L q : Int)] 29)) W6.heap.size n0 q (fun k => (E H L (runN Z n0) TH TL p k).1) (fun k => (E H L (runN Z n0) TH TL p k).2)) := hV7.out.same (heap_alloc_old (h := hV7.out.lt) ..)
              have HEA : Hid ((wr.alloc (.cells #[.int .u64 (H q : Int), .int .u64 (L q : Int)] 29)).heap[wr.heap.size]? = some (eblk (E H L (runN Z n0) TH TL 0 q))) := heap_alloc_new wr _
              have HsA : Hid (W6.heap.size < wr.heap.size ∧ wr.heap.size < (wr.alloc (.cells #[.int .u64 (H q : Int), .int .u64 (L q : Int)] 29)).heap.size ∧ (0 < p → MB < wr.heap.size)) := ⟨hV7.out.lt, by simp, fun h => P.ml.lt h⟩
              have hq0 : (0 : Int) ≤ (q : Int) := by omega
              have hqn : (q : Int) < (n0 : Int) := by omega
              clear hcc P
              go_wp2
              generalize wr.alloc (.cells #[.int .u64 (H q : Int), .int .u64 (L q : Int)] 29) = WA at *
              generalize wr.heap.size = EB at *
              clear hB7 hV7 x0 x1 HB7 HV7
              go_loopw [23, 24] (fun f m wx => ∃ t : Nat, t ≤ p ∧ f = .int .i64 (offs (runN Z n0) t : Nat) ∧ m = .int .i64 t ∧ Hid (Kp EB WA wx) ∧ Hid (wx.heap[EB]? = some (eblk (E H L (runN Z n0) TH TL t q)))) (fun _ m _ => p - (intOf m).toNat)
              case atStart => exact ⟨0, by omega, rfl, rfl, Kp.refl _ _, HEA⟩
              case round =>
                obtain ⟨t, ht, rfl, rfl, hKx, hEx⟩ := hrel
                rename World => wx
                by_cases hlt2 : t < p
                · obtain ⟨rfl, hml⟩ := HPA.out.ml (by omega)
                  obtain ⟨l0, l1, l2⟩ := hml t hlt2
                  have hMB : MB ≠ EB := by have := HsA.out.2.2 (by omega); omega
                  have m0 := hKx.out.cell l0 hMB
                  have m1 := hKx.out.cell l1 hMB
                  have m2 := hKx.out.cell l2 hMB
                  have e0 := eblk_0 hEx.out
                  have e1 := eblk_1 hEx.out
                  have f0 := eblk_f hEx.out 0
                  have f1 := eblk_f hEx.out 1
                  have ht0 : (0 : Int) ≤ (t : Int) := by omega
                  have htn : (t : Int) < (p : Int) := by omega
                  have hof : offs (runN Z n0) t + runN Z n0 t ≤ n0 := Nat.le_trans (offs_mono (runN Z n0) (show t + 1 ≤ p by omega)) hoff
                  clear hml l0 l1 l2
                  by_cases hA : q < offs (runN Z n0) t
                  ·
                    have tA : decide ((offs (runN Z n0) t : Int) ≤ (q : Int)) = false := decide_eq_false (by omega)
                    have tA2 : decide (offs (runN Z n0) t ≤ q) = false := decide_eq_false (by omega)
                    have tA3 : decide ((q : Int) ≥ (offs (runN Z n0) t : Int)) = false := decide_eq_false (by omega)
                    have R2 : Hid (∀ m, (wx.drewN m).heap[EB]? = some (eblk (E H L (runN Z n0) TH TL (t + 1) q))) := fun m => by rw [E_out _ _ _ _ _ _ _ (by omega)]; exact hEx.out
                    have R1 : Hid (∀ m, Kp EB WA (wx.drewN m)) := fun m => ⟨hKx.out.os, hKx.out.tape, hKx.out.output, hKx.out.size, hKx.out.block⟩
                    go_wp2
                    go_quiet (fail)
                    go_wp2
                    go_roundw
                    case rel => exact ⟨t + 1, by omega, by show _ = Value.int .i64 ((offs (runN Z n0) t + runN Z n0 t : Nat) : Int); go_num, by go_num, R1.out _, R2.out _⟩
                    case measure => simp [intOf]; omega
                  · by_cases hBB : q < offs (runN Z n0) t + runN Z n0 t
                    ·
                      have tA : decide ((offs (runN Z n0) t : Int) ≤ (q : Int)) = true := decide_eq_true (by omega)
                      have tA2 : decide (offs (runN Z n0) t ≤ q) = true := decide_eq_true (by omega)
                      have tA3 : decide ((q : Int) ≥ (offs (runN Z n0) t : Int)) = true := decide_eq_true (by omega)
                      have tB : decide ((q : Int) < (offs (runN Z n0) t : Int) + (runN Z n0 t : Int)) = true := decide_eq_true (by omega)
                      have HZ : Hid (∀ w, Calls Yba.prog 7 #[.agg #[.int .u64 (TH t : Int), .int .u64 (TL t : Int)], .agg #[.int .u64 ((E H L (runN Z n0) TH TL t q).1 : Int), .int .u64 ((E H L (runN Z n0) TH TL t q).2 : Int)]] w fun e w' => e = .returned (.int .i64 (vcmp (TH t) (TL t) (E H L (runN Z n0) TH TL t q).1 (E H L (runN Z n0) TH TL t q).2)) ∧ Below w.heap.size w w') := fun w => zz_any _ _ _ _ w
                      have hgt : decide (0 < vcmp (TH t) (TL t) (E H L (runN Z n0) TH TL t q).1 (E H L (runN Z n0) TH TL t q).2) = later (TH t) (TL t) (E H L (runN Z n0) TH TL t q).1 (E H L (runN Z n0) TH TL t q).2 := rfl
                      have hwr : IntKind.i64.wrap ((offs (runN Z n0) t : Int) + (runN Z n0 t : Int)) = (offs (runN Z n0) t : Int) + (runN Z n0 t : Int) := wrap_ok _ _ (by omega)
                      have lE : EB < wx.heap.size := World.block_lt_of_cell? _ _ e0
                      go_wp2
                      go_region_held3 (fun w' => w'.cell? ⟨MB, t * 3, none⟩ = some (.int .i64 (runN Z n0 t : Int)) ∧ w'.cell? ⟨MB, t * 3 + 1, none⟩ = some (.int .u64 (TH t : Int)) ∧ w'.cell? ⟨MB, t * 3 + 2, none⟩ = some (.int .u64 (TL t : Int)) ∧ w'.cell? ⟨EB, 0, none⟩ = some (.int .u64 ((E H L (runN Z n0) TH TL t q).1 : Int)) ∧ w'.cell? ⟨EB, 1, none⟩ = some (.int .u64 ((E H L (runN Z n0) TH TL t q).2 : Int)))
                        (go_keep)
                        (first
                          | (go_at_call 7; refine (HZ.out _).mono ?_; rintro e w2 ⟨rfl, hb2⟩; have k0 := kept30 hb2 m0; have k1 := kept30 hb2 m1; have k2 := kept30 hb2 m2; have k3 := kept30 hb2 e0; have k4 := kept30 hb2 e1; have k5 := frz30 hb2 (by exact lE) f0; have k6 := frz30 hb2 (by exact lE) f1))
                      have R1 : Hid (Kp EB WA w2) := hKx.out.below (below_undrew hb2)
                      have R2 : Hid (w2.heap[EB]? = some (eblk (E H L (runN Z n0) TH TL t q))) := (hb2.block EB (by exact lE)).trans hEx.out
                      cases hLt : later (TH t) (TL t) (E H L (runN Z n0) TH TL t q).1 (E H L (runN Z n0) TH TL t q).2
                      · rw [hLt] at hgt
                        have R3 : Hid (w2.heap[EB]? = some (eblk (E H L (runN Z n0) TH TL (t + 1) q))) := by unfold Hid; rw [E_stay _ _ _ _ _ _ _ hLt]; exact R2.out
                        clear hLt hb2 m0 m1 m2 e0 e1 f0 f1
                        go_wp2
                        go_roundw
                        case rel => exact ⟨t + 1, by omega, by show _ = Value.int .i64 ((offs (runN Z n0) t + runN Z n0 t : Nat) : Int); go_num, by go_num, R1.out, R3.out⟩
                        case measure => simp [intOf]; omega
                      · rw [hLt] at hgt
                        have R3 : Hid (((w2.setCell ⟨EB, 0, none⟩ (.int .u64 (TH t : Int))).setCell ⟨EB, 1, none⟩ (.int .u64 (TL t : Int))).heap[EB]? = some (eblk (E H L (runN Z n0) TH TL (t + 1) q))) := by unfold Hid; rw [E_go _ _ _ _ _ _ _ (by omega) hBB hLt]; exact eblk_set R2.out _ _
                        have R4 : Hid (Kp EB WA ((w2.setCell ⟨EB, 0, none⟩ (.int .u64 (TH t : Int))).setCell ⟨EB, 1, none⟩ (.int .u64 (TL t : Int)))) := (R1.out.set _ _).set _ _
                        clear hLt hb2 m0 m1 m2 e0 e1 f0 f1 R1 R2
                        go_wp2
                        go_roundw
                        case rel => exact ⟨t + 1, by omega, by show _ = Value.int .i64 ((offs (runN Z n0) t + runN Z n0 t : Nat) : Int); go_num, by go_num, R4.out, R3.out⟩
                        case measure => simp [intOf]; omega
                    ·
                      have tA : decide ((offs (runN Z n0) t : Int) ≤ (q : Int)) = true := decide_eq_true (by omega)
                      have tA2 : decide (offs (runN Z n0) t ≤ q) = true := decide_eq_true (by omega)
                      have tA3 : decide ((q : Int) ≥ (offs (runN Z n0) t : Int)) = true := decide_eq_true (by omega)
                      have tB : decide ((q : Int) < (offs (runN Z n0) t : Int) + (runN Z n0 t : Int)) = false := decide_eq_false (by omega)
                      have R2 : Hid (∀ m, (wx.drewN m).heap[EB]? = some (eblk (E H L (runN Z n0) TH TL (t + 1) q))) := fun m => by rw [E_out _ _ _ _ _ _ _ (by omega)]; exact hEx.out
                      have R1 : Hid (∀ m, Kp EB WA (wx.drewN m)) := fun m => ⟨hKx.out.os, hKx.out.tape, hKx.out.output, hKx.out.size, hKx.out.block⟩
                      go_wp2
                      go_quiet (fail)
                      go_wp2
                      go_roundw
                      case rel => exact ⟨t + 1, by omega, by show _ = Value.int .i64 ((offs (runN Z n0) t + runN Z n0 t : Nat) : Int); go_num, by go_num, R1.out _, R2.out _⟩
                      case measure => simp [intOf]; omega
                · obtain rfl : t = p := by omega
                  have e0 := eblk_0 hEx.out
                  have e1 := eblk_1 hEx.out
                  have sA := HsA.out
                  have VX : VBlk wx W6.heap.size n0 q (fun k => (E H L (runN Z n0) TH TL t k).1) (fun k => (E H L (runN Z n0) TH TL t k).2) := HVA.out.same (hKx.out.block _ HVA.out.lt (by omega))
                  obtain ⟨y0, r2⟩ := VX.some (show q * 2 < n0 * 2 by omega)
                  obtain ⟨y1, r3⟩ := VX.some (show q * 2 + 1 < n0 * 2 by omega)
                  have f0 := VX.fr (q * 2)
                  have f1 := VX.fr (q * 2 + 1)
                  have BX : Below W6.heap.size W6 wx := kp_below HBA.out hKx.out (by omega) HBA.out.size
                  have R1 : Hid (Below W6.heap.size W6 ((wx.setCell ⟨W6.heap.size, q * 2, none⟩ (.int .u64 ((E H L (runN Z n0) TH TL t q).1 : Int))).setCell ⟨W6.heap.size, q * 2 + 1, none⟩ (.int .u64 ((E H L (runN Z n0) TH TL t q).2 : Int)))) := (BX.setCell (by exact Nat.le_refl _) _).setCell (by exact Nat.le_refl _) _
                  have R2 : Hid (VBlk ((wx.setCell ⟨W6.heap.size, q * 2, none⟩ (.int .u64 ((E H L (runN Z n0) TH TL t q).1 : Int))).setCell ⟨W6.heap.size, q * 2 + 1, none⟩ (.int .u64 ((E H L (runN Z n0) TH TL t q).2 : Int))) W6.heap.size n0 (q + 1) (fun k => (E H L (runN Z n0) TH TL t k).1) (fun k => (E H L (runN Z n0) TH TL t k).2)) := VX.set (show q < n0 by omega) rfl rfl (fun j hj hne => ⟨by omega, rfl, rfl⟩)
                  clear VX BX sA HPA HBA HVA HEA HsA hKx hEx
                  go_wp2
                  go_roundw
                  case rel => exact ⟨q + 1, by omega, by go_num, R1, R2⟩
                  case measure => simp [intOf]; omega
            · obtain rfl : n0 = q := by omega
              rename World => W8
              clear HB7 HV7
              have HP8 : Hid (Post w W8 _ _ _ _ _ _ _ _ _ _ _ _ _ _ _ _ _ _ _ _ _ _) := P
              clear P HQ' hB7
              have p15 := HP8.out.hc
              have p16 := HP8.out.hl
              go_wp2_with fail
              go_loopw [25] (fun i wr => ∃ k m : Nat, k ≤ n0 ∧ i = .int .i64 k ∧ wr = W8.drewN m) (fun i _ => n0 - (intOf i).toNat)
              case atStart => exact ⟨0, 0, by omega, rfl, rfl⟩
              case round =>
                obtain ⟨k, m, hk, rfl, rfl⟩ := hrel
                by_cases hltk : k < n0
                · have r0 := HP8.out.blk.c0 hltk
                  have r1 := HP8.out.blk.c1 hltk
                  have r2 := hV7.out.c0 hltk
                  have r3 := hV7.out.c1 hltk
                  have hk0 : (0 : Int) ≤ (k : Int) := by omega
                  have hkn : (k : Int) < (n0 : Int) := by omega
                  go_wp2_with fail
                  go_quiet (fail)
                  go_wp2
                  go_roundw
                  case rel => exact ⟨k + 1, _, by omega, by go_num, rfl⟩
                  case measure => simp [intOf]; omega
                · go_wp2_with fail
                  refine (equal_any LB MB p lc mc lo mo (runN Z n0) TH TL (W8.drewN m) hn1 HP8.out.ll HP8.out.ml).mono ?_
                  rintro e w9 ⟨rfl, m1, rfl⟩
                  by_cases hz : n0 = 0
                  · have hmv : moved n0 (E H L (runN Z n0) TH TL p 0) vh vl = false := by simp [moved, hz]
                    have v0 := HP8.out.v0
                    have v1 := HP8.out.v1
                    rw [hmv] at v0 v1
                    have x0 := HP8.out.x0
                    have x1 := HP8.out.x1
                    simp only [Bool.false_eq_true, if_false] at v0 v1
                    have hz1 : decide ((0 : Int) < (n0 : Int)) = false := decide_eq_false (by omega)
                    have hz2 : decide (0 < n0) = false := decide_eq_false (by omega)
                    go_wp2_with fail
                    go_quiet (fail)
                    go_wp2_with fail
                    go_quiet (fail)
                    go_wp2
                    go_ret
                    exact ⟨rfl, HP8.out.bel.os, HP8.out.bel.tape, HP8.out.bel.output, HP8.out.bel.size, HP8.out.bel.block⟩
                  · have r2 := hV7.out.c0 (show 0 < n0 by omega)
                    have r3 := hV7.out.c1 (show 0 < n0 by omega)
                    simp only [Nat.zero_mul, Nat.zero_add] at r2 r3
                    obtain ⟨eh, heh⟩ : ∃ x, x = (E H L (runN Z n0) TH TL p 0).1 := ⟨_, rfl⟩
                    obtain ⟨el, hel⟩ : ∃ x, x = (E H L (runN Z n0) TH TL p 0).2 := ⟨_, rfl⟩
                    rw [← heh] at r2
                    rw [← hel] at r3
                    have hmv : moved n0 (E H L (runN Z n0) TH TL p 0) vh vl = later eh el vh vl := by rw [heh, hel]; simp [moved]; omega
                    have v0 := HP8.out.v0
                    have v1 := HP8.out.v1
                    have x0 := HP8.out.x0
                    have x1 := HP8.out.x1
                    rw [hmv, ← heh] at v0
                    rw [hmv, ← hel] at v1
                    have hn2 : 0 < n0 := by omega
                    have hn3 : decide ((0 : Int) < (n0 : Int)) = true := decide_eq_true (by omega)
                    have hn4 : decide (0 < n0) = true := decide_eq_true (by omega)
                    clear heh hel hz
                    have HZ : Hid (∀ w, Calls Yba.prog 7 #[.agg #[.int .u64 (eh : Int), .int .u64 (el : Int)], .agg #[.int .u64 (vh : Int), .int .u64 (vl : Int)]] w fun e w' => e = .returned (.int .i64 (vcmp eh el vh vl)) ∧ Below w.heap.size w w') := fun w => zz_any _ _ _ _ w
                    have hgt : decide (0 < vcmp eh el vh vl) = later eh el vh vl := rfl
                    cases hLt : later eh el vh vl
                    · rw [hLt] at hgt hmv v0 v1
                      simp only [Bool.false_eq_true, if_false] at v0 v1
                      clear hLt
                      go_wp2_with fail
                      go_region_held3 (fun w' => w'.cell? ⟨W6.heap.size, 0, none⟩ = some (.int .u64 (eh : Int)) ∧ w'.cell? ⟨W6.heap.size, 1, none⟩ = some (.int .u64 (el : Int)) ∧ w'.cell? ⟨VB, 0, none⟩ = some (.int .u64 (vh : Int)) ∧ w'.cell? ⟨VB, 1, none⟩ = some (.int .u64 (vl : Int)))
                        (go_keep)
                        (first
                          | (go_at_call 7; refine (HZ.out _).mono ?_; rintro e w2 ⟨rfl, hb2⟩; have k0 := kept43 hb2 r2; have k1 := kept43 hb2 r3; have k2 := kept43 hb2 x0; have k3 := kept43 hb2 x1; have k4 := kept43 hb2 v0; have k5 := kept43 hb2 v1))
                      have HF : Hid (Below w.heap.size w w2) := below43 HP8.out.bel hb2
                      clear hb2
                      go_wp2_with fail
                      go_quiet (fail)
                      go_wp2
                      go_ret
                      exact ⟨rfl, HF.out.os, HF.out.tape, HF.out.output, HF.out.size, HF.out.block⟩
                    · rw [hLt] at hgt hmv v0 v1
                      simp only [if_true] at v0 v1
                      clear hLt
                      go_wp2_with fail
                      go_region_held3 (fun w' => w'.cell? ⟨W6.heap.size, 0, none⟩ = some (.int .u64 (eh : Int)) ∧ w'.cell? ⟨W6.heap.size, 1, none⟩ = some (.int .u64 (el : Int)) ∧ w'.cell? ⟨VB, 0, none⟩ = some (.int .u64 (vh : Int)) ∧ w'.cell? ⟨VB, 1, none⟩ = some (.int .u64 (vl : Int)))
                        (go_keep)
                        (first
                          | (go_at_call 7; refine (HZ.out _).mono ?_; rintro e w2 ⟨rfl, hb2⟩; have k0 := kept43 hb2 r2; have k1 := kept43 hb2 r3; have k2 := kept43 hb2 x0; have k3 := kept43 hb2 x1; have k4 := kept43 hb2 v0; have k5 := kept43 hb2 v1))
                      have HF : Hid (Below w.heap.size w w2) := below43 HP8.out.bel hb2
                      clear hb2
                      go_wp2_with fail
                      go_quiet (fail)
                      go_wp2
                      go_ret
                      exact ⟨rfl, HF.out.os, HF.out.tape, HF.out.output, HF.out.size, HF.out.block⟩

set_option maxRecDepth 100000 in
set_option maxHeartbeats 1000000 in
theorem lawC_big (n0 c0 n1 c1 : Nat) (a0 a1 : Option Addr) (vh vl : Int) (w : World) (h : 4096 < n0 ∨ 4096 < n1) :
    Calls Yba.prog 3 #[.slice a0 n0 c0, .slice a1 n1 c1, .int .u64 vh, .int .u64 vl] w fun e w' => e = .returned (.bool true) ∧ Below w.heap.size w w' := by
  by_cases h0 : 4096 < n0
  · have t0 : decide ((4096 : Int) < (n0 : Int)) = true := decide_eq_true (by omega)
    go_enter Yba.func3, Yba.ntmps3
    go_wp2
    go_ret
    exact ⟨rfl, Below.refl _ _⟩
  · have t0 : decide ((4096 : Int) < (n0 : Int)) = false := decide_eq_false (by omega)
    have t1 : decide ((4096 : Int) < (n1 : Int)) = true := decide_eq_true (by omega)
    go_enter Yba.func3, Yba.ntmps3
    go_wp2
    go_ret
    exact ⟨rfl, Below.refl _ _⟩
end Go.Proofs.Ybulkdmvy.Lift
