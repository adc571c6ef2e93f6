import Derived.Test.YbulkdmwmBase
namespace Go.Proofs.Ybulkdmwm.Legs
open Go.ChangeShapes Go.WideShapes Go.ChangeAt Go.RowKit
set_option linter.unusedSimpArgs false

set_option maxRecDepth 100000 in
set_option maxHeartbeats 1000000 in
theorem lawA (n0 c0 b0 o0 n1 c1 b1 o1 : Nat) (a0 a1 : Option Addr) (z0 z1 : Nat → Nat) (s2 s3 : ByteArray) (w : World) (hn0 : n0 ≤ 4096) (hn1 : n1 ≤ 4096)
    (h0 : Hid (U8 w a0 n0 b0 o0 z0)) (h1 : Hid (U8 w a1 n1 b1 o1 z1)) (hz0 : NilZ a0 n0) (hz1 : NilZ a1 n1) :
    Calls Yba.prog 3 #[.slice a0 n0 c0, .slice a1 n1 c1, .string s2, .string s3] w fun e w' => e = .returned (.bool true) ∧ Below w.heap.size w w' := by
  have t0 : decide ((4096 : Int) < (n0 : Int)) = false := decide_eq_false (by omega)
  have t1 : decide ((4096 : Int) < (n1 : Int)) = false := decide_eq_false (by omega)
  go_enter Yba.func3, Yba.ntmps3
  go_wp2
  go_loopw [10] (fun i wr => ∃ k : Nat, k ≤ 6 ∧ i = .int .i64 k ∧ Hid (L1 w k wr)) (fun i _ => 6 - (intOf i).toNat)
  case atStart => exact ⟨0, by omega, rfl, l1_start w⟩
  case round =>
    obtain ⟨k, hk, rfl, hL⟩ := hrel
    by_cases hlt : k < 6
    · have hc := fun o => (l1_cell hlt hL.out o).1
      have hf := fun o => (l1_cell hlt hL.out o).2
      have hk0 : (0 : Int) ≤ (k : Int) := by omega
      have hkn : (k : Int) < 6 := by omega
      have R := l1_step hlt hL.out
      have HR : Hid _ := R
      clear R hL
      go_wp2
      go_roundw
      case rel => exact ⟨k + 1, by omega, by go_num, HR.out⟩
      case measure => simp [intOf]; omega
    · have hL6 : L1 w 6 wr := by have e : k = 6 := by omega
                                 rw [← e]; exact hL.out
      have hsz : wr.heap.size = w.heap.size + 7 := hL6.sz
      have HB : Hid (Base w wr) := base_of hL6
      clear hL hL6
      rename World => W1
      obtain ⟨i0, hi, hz, hsz1, hsz2⟩ := info_parts info23
      have HI : Hid (_ ∧ _ ∧ _ ∧ _) := ⟨hi, hz, hsz1, hsz2⟩
      have hby : Hid (i0.bytes * n1 ≤ 281474976710656) := by unfold Hid; rw [hsz2]; omega
      have hby0 : Hid (i0.bytes * n0 ≤ 281474976710656) := by unfold Hid; rw [hsz2]; omega
      clear hi hz hsz1 hsz2
      have nq22 := fun (w : World) (a : Option Addr) (n c n' c' : Nat) => run_neq_slice_nil_any (P := Yba.prog) w 22 5 a n c n' c' Yba.underlying22
      go_upto_if 47 with fail
      go_cut [12] (fun v wc => ∃ ao DB, v = .slice ao n1 n1 ∧ NilZ ao n1 ∧ Hid (L2 w n1 z1 0 ao DB wc))
      case first =>
        cases a1 with
        | none =>
          obtain rfl := hz1 rfl
          go_wp2
          go_meet
          case rel => exact ⟨none, 0, rfl, (fun _ => rfl), l2_nil HB.out hsz 0⟩
        | some x =>
          go_wp2_with (at_make; refine wpList_make_full _ (by rfl) (.tmp 49) (.tmp 49) 37 (by rfl) (w.heap.size + 8) 23 i0 (.pointer none) 1 Yba.underlying37 HI.out.1 HI.out.2.1 HI.out.2.2.1 .i64 .i64 (n1 : Int) (n1 : Int) n1 (by rfl) (by rfl) (by rfl) (by rfl) hby.out (by unfold maxLen; omega) (by simp; omega) ?_; intro w1 hown1 hgrow1)
          have R := l2_made (z := z1) HB.out hsz hown1 hgrow1
          simp only [World.size_alloc, hsz] at R
          clear hown1 hgrow1
          go_wp2
          go_meet
          case rel => exact ⟨_, _, rfl, (fun h => by cases h), R⟩
      case rest =>
        obtain ⟨ao, DB, rfl, hao, hL2⟩ := hcut
        go_wp2
        go_loopw [53] (fun i wx => ∃ q : Nat, q ≤ n1 ∧ i = .int .i64 q ∧ Hid (L2 w n1 z1 q ao DB wx)) (fun i _ => n1 - (intOf i).toNat)
        case atStart => exact ⟨0, by omega, rfl, hL2⟩
        case round =>
          obtain ⟨q, hq, rfl, hQ⟩ := hrel
          by_cases hlt : q < n1
          · obtain ⟨rfl, hbb, hcs⟩ := h1.out (by omega)
            obtain ⟨hc1, hz⟩ := hcs q hlt
            have hc2 : wr.cell? ⟨b1, o1 + q, none⟩ = some (.int .u8 (z1 q : Int)) := (hQ.out.base.bel.cell (by exact hbb)).trans hc1
            obtain ⟨rfl, ⟨gb, hg1⟩, hg2, ⟨gp, hg3⟩, hg4, hg5⟩ := l2_cells hlt hQ.out
            have R := l2_step hlt hQ.out
            have HR : Hid _ := R
            have HP := hQ.out.base
            have HP' : Hid (Base w wr) := HP
            have zb0 : (0 : Int) ≤ (z1 q : Int) := by omega
            have zb1 : (z1 q : Int) ≤ 255 := by omega
            clear R hQ hcs hc1 HP
            go_wp2_with fail
            refine (pick_int w.heap.size _ (z1 q % 7) (by omega) (L w.heap.size) _ (by omega) (fun hk => (HP'.out.step ((Below.refl _ wr).setCell (by exact Nat.le_refl _) _)).cell _ hk)).mono ?_
            rintro e w' ⟨rfl, rfl⟩
            go_wp2
            go_roundw
            case rel => exact ⟨q + 1, by omega, by go_num, HR.out⟩
            case measure => simp [intOf]; omega
          · obtain rfl : q = n1 := by omega
            rename World => W2
            clear hL2
            go_wp2_with fail
            refine (clone_any DB q q ao (fun j => ptr (L w.heap.size) (z1 j % 7)) _ hn1 (l2_row hQ.out) hao).mono ?_
            rintro e W3 ⟨v16, rfl, hbc, ho16⟩
            have H2 : Hid (L2 w q z1 q ao DB W3) := hQ.out.keep hbc
            have H16 : Hid (W3.ownsRow W2.heap.size 23 1 v16 q (pcells (fun j => ptr (L w.heap.size) (z1 j % 7)) q)) := ho16
            clear ho16 hbc hQ
            go_upto_if 72 with fail
            go_cut [17] (fun v wc => ∃ ao, v = .slice ao n0 n0 ∧ NilZ ao n0 ∧ Hid (L3 w W3 n0 z0 z1 q 0 ao (.slice none 0 0) wc))
            case first =>
              cases a0 with
              | none =>
                obtain rfl := hz0 rfl
                go_wp2
                go_meet
                case rel => exact ⟨none, rfl, (fun _ => rfl), l3_nil _⟩
              | some x =>
                go_wp2_with (at_make; refine wpList_make_full _ (by rfl) (.tmp 74) (.tmp 74) 37 (by rfl) W3.heap.size 23 i0 (.pointer none) 1 Yba.underlying37 HI.out.1 HI.out.2.1 HI.out.2.2.1 .i64 .i64 (n0 : Int) (n0 : Int) n0 (by rfl) (by rfl) (by rfl) (by rfl) hby0.out (by unfold maxLen; omega) (by omega) ?_; intro w1 hown1 hgrow1)
                have R := l3_made (w := w) (z0 := z0) (z1 := z1) (n1 := q) hown1 hgrow1
                clear hown1 hgrow1
                go_wp2
                go_meet
                case rel => exact ⟨_, rfl, (fun h => by cases h), R⟩
            case rest =>
              obtain ⟨aS, rfl, haS, hL3⟩ := hcut
              have hWs : w.heap.size + 8 ≤ W3.heap.size := H2.out.sz
              obtain ⟨j0, hj, hjz, hjs, hjb⟩ := info_parts info3
              have HJ : Hid (_ ∧ _ ∧ _ ∧ _) := ⟨hj, hjz, hjs, hjb⟩
              clear hj hjz hjs hjb
              go_wp2
              go_loopw [18, 78] (fun v i wx => ∃ p : Nat, p ≤ n0 ∧ i = .int .i64 p ∧ Hid (L3 w W3 n0 z0 z1 q p aS v wx)) (fun _ i _ => n0 - (intOf i).toNat)
              case atStart => exact ⟨0, by omega, rfl, hL3⟩
              case round =>
                obtain ⟨p, hp, rfl, hQ⟩ := hrel
                by_cases hlt : p < n0
                · obtain ⟨rfl, hbb, hcs⟩ := h0.out (by omega)
                  obtain ⟨hc1, hz⟩ := hcs p hlt
                  obtain ⟨rfl, hrow⟩ := hQ.out.row (by omega)
                  have HP : Hid (Base w wr) := H2.out.base.step (hQ.out.bel.mono (by omega))
                  have hc2 : wr.cell? ⟨b0, o0 + p, none⟩ = some (.int .u8 (z0 p : Int)) := (HP.out.bel.cell (by exact hbb)).trans hc1
                  have hg1 : wr.cell? ⟨w.heap.size + 7, z0 p % 7, none⟩ = some (.bool (goneK z1 q (z0 p % 7))) := l3_gone H2.out hQ.out.bel p
                  have hg3 : wr.cell? ⟨W3.heap.size, p, none⟩ = some (.pointer none) := by rw [cell_of_row _ _ _ _ _ _ hrow]; simp [rowc, hlt]
                  have hg4 : wr.frozen? ⟨W3.heap.size, p, none⟩ = false := frozen_of_row _ _ _ _ _ hrow
                  have hWr : W3.heap.size < wr.heap.size := World.block_lt_of_cell? _ _ hg3
                  have zb0 : (0 : Int) ≤ (z0 p : Int) := by omega
                  have zb1 : (z0 p : Int) ≤ 255 := by omega
                  have HV : Hid (L3 w W3 n0 z0 z1 q p (some ⟨W3.heap.size, 0, none⟩) u18 wr) := hQ
                  clear hcs hc1 hQ hrow
                  go_wp2_with fail
                  refine (pick_int w.heap.size _ (z0 p % 7) (by omega) (L w.heap.size) _ (by omega) (fun hk => HP.out.cell _ hk)).mono ?_
                  rintro e w' ⟨rfl, rfl⟩
                  cases hgk : goneK z1 q (z0 p % 7)
                  · go_wp2_with (at_builtin; refine wpList_append_own _ (by rfl) (.tmp 95) (.tmp 97) 41 (by rfl) (W3.heap.size + 1) 3 j0 (.int .i64 0) 1 8 Yba.underlying41 HJ.out.1 HJ.out.2.1 HJ.out.2.2.1 HJ.out.2.2.2 (by rfl) (by decide) u18 _ _ (by rfl) ((ownsRow_setCell_below HV.out.want (by show _ < _; exact Nat.lt_succ_self _) _).alloc _) ⟨wr.heap.size, 0, none⟩ 1 1 [.int .i64 ((z0 p : Int) % 7)] (by rfl) (by rfl) (news_set _ _ _ _) (by intro u hu; simp at hu; subst hu; rfl) (by have := wl_le z0 z1 q p; unfold maxLen; omega) (by have := wl_le z0 z1 q p; omega) (by simp; omega) ?_; intro v' w1 hown' hgrow hn')
                    have R := l3_step_keep hlt hgk HV.out hown' hgrow
                    clear hown' hgrow hn' HV
                    go_wp2
                    go_roundw
                    case rel => exact ⟨p + 1, by omega, by go_num, R⟩
                    case measure => simp [intOf]; omega
                  · have R := l3_step_gone hlt hgk HV.out
                    have HR : Hid _ := R
                    clear R
                    go_wp2
                    go_roundw
                    case rel => exact ⟨p + 1, by omega, by go_num, HR.out⟩
                    case measure => simp [intOf]; omega
                · obtain rfl : p = n0 := by omega
                  rename World => W4
                  clear hL3
                  have H4 : Hid (L3 w W3 p z0 z1 q p aS u18 W4) := hQ
                  clear hQ
                  go_wp2_with fail
                  refine (clone_any W3.heap.size p p aS (fun j => ptr (L w.heap.size) (z0 j % 7)) _ hn0 (l3_rowOf H4.out) haS).mono ?_
                  rintro e W5 ⟨v22, rfl, hbc, ho22⟩
                  have F : Hid (Fin w W5 W2.heap.size W3.heap.size W4.heap.size p q z0 z1 aS ao DB u18 v16 v22) := fin_mk H2.out H16.out H4.out hbc ho22
                  have hs75 : Below W4.heap.size W4 W5 := hbc
                  clear ho22 hbc
                  go_wp2_with fail
                  refine (drop_any W5.heap.size p p q q W3.heap.size DB aS ao (fun j => ptr (L w.heap.size) (z0 j % 7)) (fun j => ptr (L w.heap.size) (z1 j % 7)) _ (by simp) (by simp) hn0 hn1 (F.out.rowS.alloc _) (fun i _ => (live_ptr F.out.base _ (Nat.mod_lt _ (by omega))).alloc _) (fun i _ => (live_ptr F.out.base _ (Nat.mod_lt _ (by omega))).alloc _) (F.out.rowD.alloc _)).mono ?_
                  rintro e w' ⟨rfl, wx, v, rfl, hbx, hox, hnx⟩
                  obtain ⟨F7, c0, c1, c2, c3, ho7⟩ := after_drop F.out hbx hox
                  obtain ⟨m, f, wo, wg, wc, vo, vg, vc, hm, hv18, hv, hmn, hwant, hleft, hf7⟩ := fin_facts F7 ho7 hnx
                  obtain ⟨do16, dg16, dc16, h16, hdD⟩ := own_row F7.dupD
                  obtain ⟨do22, dg22, dc22, h22, hdS⟩ := own_row F7.dupS
                  have HF : Hid (Base w _) := F7.base
                  have HrD : Hid (Row _ _ _ _ _) := F7.rowD
                  have HrS : Hid (Row _ _ _ _ _) := F7.rowS
                  have HdD : Hid (Row _ _ _ _ _) := hdD
                  have HdS : Hid (Row _ _ _ _ _) := hdS
                  have Hw : Hid (0 < m → _ ∧ _) := hwant
                  have Hl : Hid (Row _ _ _ _ _) := hleft
                  have Hf : Hid (∀ t, t < m → f t < 7) := hf7
                  have Hn : Hid (m = 0 → vo = none) := hmn
                  clear F7 ho7 hdD hdS hwant hleft hf7 hmn hbx hox hnx F H4 H2 H16 hs75
                  generalize wx.setCell ⟨W5.heap.size, 3, none⟩ v = W7 at *
                  subst hv18 hv h16 h22
                  have nq37 := fun (w : World) (a : Option Addr) (n c n' c' : Nat) => run_neq_slice_nil_any (P := Yba.prog) w 37 23 a n c n' c' Yba.underlying37
                  simp only []
                  go_upto_region 37 with fail
                  go_cut [128] (fun b wc => b = .bool false ∧ wc = W7)
                  case first =>
                    by_cases hm0 : m = 0
                    · subst hm0
                      obtain rfl := Hn.out rfl
                      go_wp2
                      go_meet
                      case rel => exact ⟨rfl, rfl⟩
                    · have hm1 : ((m : Int) == 0) = false := by rw [beq_eq_false_iff_ne]; omega
                      go_wp2
                      go_meet
                      case rel => exact ⟨rfl, rfl⟩
                  case rest =>
                    obtain ⟨rfl, rfl⟩ := hcut
                    go_wp2
                    go_loopw [24] (fun i wx => ∃ t mm : Nat, t ≤ m ∧ i = .int .i64 t ∧ wx = wc.drewN mm) (fun i _ => m - (intOf i).toNat)
                    case atStart => exact ⟨0, 0, by omega, rfl, rfl⟩
                    case round =>
                      obtain ⟨t, mm, ht, rfl, rfl⟩ := hrel
                      by_cases hlt : t < m
                      · obtain ⟨rfl, hwc⟩ := Hw.out (by omega)
                        obtain ⟨rfl, hlc⟩ := Hl.out (by omega)
                        have hw1 := hwc t hlt
                        have hl1 := hlc t hlt
                        have hf1 := Hf.out t hlt
                        have hq1 : ∀ n, Sem.run Yba.prog (binOp .neq 23 (.pointer (ptr (L w.heap.size) (f t))) (.pointer (ptr (L w.heap.size) (f t)))) (wc.drewN n) = .ok (.bool false) (wc.drewN n) := fun n => by
                          have := run_neq_legs (wc.drewN n) _ _ (live_ptr HF.out (f t) hf1) (live_ptr HF.out (f t) hf1)
                          simpa using this
                        have Hp : Hid (∀ n, Calls Yba.prog 5 #[.pointer (some ⟨w.heap.size, 0, none⟩), .int .i64 (f t : Int)] (wc.drewN (mm + n)) fun e w' => e = .returned (.pointer (ptr (L w.heap.size) (f t))) ∧ ∃ n', w' = wc.drewN (mm + n')) := fun n =>
                          (pick_any w.heap.size (f t) (L w.heap.size) (wc.drewN (mm + n)) (by omega) (fun hk => by have := HF.out.cell _ hk; simpa using this)).mono (fun _ _ h => ⟨h.1, n, h.2.symm⟩)
                        have hk0 : (0 : Int) ≤ (t : Int) := by omega
                        have hkn : (t : Int) < (m : Int) := by omega
                        clear hwc hlc
                        go_wp2_with fail
                        go_quiet (exact Hp.out _)
                        go_wp2
                        go_roundw
                        case rel => exact ⟨t + 1, _, by omega, by go_num, rfl⟩
                        case measure => simp [intOf]; omega
                      · obtain rfl : t = m := by omega
                        go_wp2_with fail
                        refine (equal_any DB dg16 q q dc16 ao do16 (fun j => ptr (L w.heap.size) (z1 j % 7)) (wc.drewN mm) hn1 HrD HdD (fun i _ => live_ptr HF.out _ (Nat.mod_lt _ (by omega)))).mono ?_
                        rintro e w' ⟨rfl, m1, rfl⟩
                        go_wp2_with fail
                        refine (equal_any W3.heap.size dg22 p p dc22 aS do22 (fun j => ptr (L w.heap.size) (z0 j % 7)) (wc.drewN (mm + m1)) hn0 HrS HdS (fun i _ => live_ptr HF.out _ (Nat.mod_lt _ (by omega)))).mono ?_
                        rintro e w' ⟨rfl, m2, rfl⟩
                        go_wp2_with fail
                        have nq33 := fun (w : World) (a : Option Addr) (n c n' c' : Nat) => run_neq_slice_nil_any (P := Yba.prog) w 33 _ a n c n' c' Yba.underlying33
                        have Hbel : Hid (Below w.heap.size w wc) := HF.out.bel
                        go_loopw [25] (fun i wx => ∃ t mm : Nat, t ≤ 6 ∧ i = .int .i64 t ∧ wx = wc.drewN mm) (fun i _ => 6 - (intOf i).toNat)
                        case atStart => exact ⟨0, _, by omega, rfl, rfl⟩
                        case round =>
                          obtain ⟨x, mx, hx, rfl, rfl⟩ := hrel
                          by_cases hlt : x < 6
                          · have hp1 : wc.cell? ⟨w.heap.size, x, none⟩ = some (.pointer (some ⟨w.heap.size + 1 + x, 0, none⟩)) := HF.out.cell x hlt
                            have hl0 : wc.cell? ⟨w.heap.size + 1 + x, 0, none⟩ = some (.string ((⟨#[97, 98, 99, 100, 101, 102]⟩ : ByteArray).extract x (x + 1))) := by rw [cell_of_row _ _ _ _ _ _ (HF.out.legs x hlt)]; rfl
                            have hl4 : wc.cell? ⟨w.heap.size + 1 + x, 4, none⟩ = some (.slice none 0 0) := by rw [cell_of_row _ _ _ _ _ _ (HF.out.legs x hlt)]; rfl
                            have hk0 : (0 : Int) ≤ (x : Int) := by omega
                            have hkn : (x : Int) < 6 := by omega
                            have hk1 : (x : Int) + 1 ≤ 6 := by omega
                            go_wp2_with fail
                            go_quiet (fail)
                            go_wp2
                            go_roundw
                            case rel => exact ⟨x + 1, _, by omega, by go_num, rfl⟩
                            case measure => simp [intOf]; omega
                          · go_wp2
                            go_ret
                            exact ⟨rfl, Hbel.out.os, Hbel.out.tape, Hbel.out.output, Hbel.out.size, Hbel.out.block⟩

set_option maxRecDepth 100000 in
set_option maxHeartbeats 1000000 in
theorem lawA_big (n0 c0 n1 c1 : Nat) (a0 a1 : Option Addr) (s2 s3 : ByteArray) (w : World) (h : 4096 < n0 ∨ 4096 < n1) :
    Calls Yba.prog 3 #[.slice a0 n0 c0, .slice a1 n1 c1, .string s2, .string s3] w fun e w' => e = .returned (.bool true) ∧ Below w.heap.size w w' := by
  by_cases h0 : 4096 < n0
  · have t0 : decide ((4096 : Int) < (n0 : Int)) = true := decide_eq_true (by omega)
    go_enter Yba.func3, Yba.ntmps3
    go_wp2
    go_ret
    exact ⟨rfl, Below.refl _ _⟩
  · have t0 : decide ((4096 : Int) < (n0 : Int)) = false := decide_eq_false (by omega)
    have t1 : decide ((4096 : Int) < (n1 : Int)) = true := decide_eq_true (by omega)
    go_enter Yba.func3, Yba.ntmps3
    go_wp2
    go_ret
    exact ⟨rfl, Below.refl _ _⟩
end Go.Proofs.Ybulkdmwm.Legs
