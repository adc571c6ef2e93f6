import Derived.Test.YbulkdmvyLift
import Derived.Laws.StructEq
namespace Go.Proofs.Ybulkdmvy.Lift
open Go.ChangeShapes Go.WideShapes Go.ChangeAt Go.RowKit
set_option linter.unusedSimpArgs false

theorem info29 : (Yba.prog.info? 29).map (fun i => (i.zero, i.size, i.bytes)) = some (some (.agg #[.int .u64 0, .int .u64 0]), 2, 16) := by kernel_rfl
theorem info35 : (Yba.prog.info? 35).map (fun i => (i.zero, i.size, i.bytes)) = some (some (.agg #[.int .i64 0, .int .u64 0, .int .u64 0]), 3, 24) := by kernel_rfl

/-- A slice of virtual times, to be read. -/
def VRow (w : World) (ao : Option Addr) (n b : Nat) (H L : Nat → Nat) : Prop := 0 < n → ao = some ⟨b, 0, none⟩ ∧ ∀ i, i < n → w.cell? ⟨b, i * 2, none⟩ = some (.int .u64 (H i : Int)) ∧ w.cell? ⟨b, i * 2 + 1, none⟩ = some (.int .u64 (L i : Int))
theorem VRow.lt {w : World} {ao : Option Addr} {n b : Nat} {H L : Nat → Nat} (h : VRow w ao n b H L) (h0 : 0 < n) : b < w.heap.size := World.block_lt_of_cell? _ _ ((h h0).2 0 h0).1
theorem VRow.same {w w' : World} {ao : Option Addr} {n b : Nat} {H L : Nat → Nat} (h : VRow w ao n b H L) (e : 0 < n → w'.heap[b]? = w.heap[b]?) : VRow w' ao n b H L := fun h0 => by
  obtain ⟨ea, hc⟩ := h h0
  have ec : ∀ j, w'.cell? ⟨b, j, none⟩ = w.cell? ⟨b, j, none⟩ := fun j => World.cell?_of_block (w := w) (e h0)
  exact ⟨ea, fun i hi => by rw [ec, ec]; exact hc i hi⟩
theorem own_form {w : World} {base e s n : Nat} {v : Value} {xs : List Value} (h : w.ownsRow base e s v n xs) :
    ∃ ao g cap, v = .slice ao n cap ∧ (ao = none → n = 0) ∧ (∀ x, ao = some x → x = ⟨g, 0, none⟩ ∧ base ≤ g ∧ ∀ j, j < n * s → w.cell? ⟨g, j, none⟩ = xs[j]?) := by
  rcases h.2 with ⟨h', rfl, _⟩ | ⟨g, cap, cur, h', hbg, hgg, _, _, hcs, htake⟩
  · exact ⟨none, 0, 0, h', fun _ => rfl, fun x hx => by cases hx⟩
  · refine ⟨some ⟨g, 0, none⟩, g, cap, h', (fun hx => by cases hx), fun x hx => ⟨(Option.some.inj hx).symm, hbg, fun j hj => ?_⟩⟩
    rw [cell_of_row _ _ _ _ _ _ hgg, ← htake, List.getElem?_take_of_lt hj]
    simp
theorem vblk_row {w : World} {b n : Nat} {H L : Nat → Nat} (h : VBlk w b n n H L) : ∃ xs : List Value, xs.length = n * 2 ∧ (∀ j u, xs[j]? = some u → w.cell? ((⟨b, 0, none⟩ : Addr).add j) = some u) ∧ (∀ u ∈ xs, u.oneCell' = true) ∧ ∀ k, k < n → xs[k * 2]? = some (.int .u64 (H k : Int)) ∧ xs[k * 2 + 1]? = some (.int .u64 (L k : Int)) := by
  obtain ⟨cur, hb, hs, hc⟩ := h
  refine ⟨cur.toList, by simpa using hs, World.news_of_block hb, fun u hu => ?_, fun k hk => by simpa using hc k hk⟩
  obtain ⟨j, hj, rfl⟩ := List.getElem_of_mem hu
  simp at hj
  rcases Nat.mod_two_eq_zero_or_one j with e | e
  · have := (hc (j / 2) (by omega)).1
    rw [show j / 2 * 2 = j by omega, Array.getElem?_eq_getElem hj] at this
    simp [Option.some.inj this, Value.oneCell']
  · have := (hc (j / 2) (by omega)).2
    rw [show j / 2 * 2 + 1 = j by omega, Array.getElem?_eq_getElem hj] at this
    simp [Option.some.inj this, Value.oneCell']

/-- The lifts as the law itself makes them. -/
def LS (w : World) (base : Nat) (v : Value) (m : Nat) (N TH TL : Nat → Nat) : Prop :=
  ∃ xs : List Value, w.ownsRow base 35 3 v m xs ∧ (∀ u ∈ xs, u.oneCell' = true) ∧ ∀ k, k < m → xs[k * 3]? = some (.int .i64 (N k : Int)) ∧ xs[k * 3 + 1]? = some (.int .u64 (TH k : Int)) ∧ xs[k * 3 + 2]? = some (.int .u64 (TL k : Int))

theorem eq25 (w : World) (a : Option Addr) (n c n' c' : Nat) : (binOp .eql 25 (.slice a n c) (.slice none n' c')).run Yba.prog w = .ok (.bool a.isNone) w := Lib.run_eql_slice_nil (P := Yba.prog) w 25 29 a n c n' c' Yba.underlying25
theorem eq30 (w : World) (a : Option Addr) (n c n' c' : Nat) : (binOp .eql 30 (.slice a n c) (.slice none n' c')).run Yba.prog w = .ok (.bool a.isNone) w := Lib.run_eql_slice_nil (P := Yba.prog) w 30 35 a n c n' c' Yba.underlying30

set_option maxRecDepth 100000 in
set_option maxHeartbeats 1000000 in
theorem clone25 (B n : Nat) (H L : Nat → Nat) (w : World) (hn : n ≤ 4096) (hV : Hid (VBlk w B n n H L)) :
    Calls Yba.prog 4 #[.slice (some ⟨B, 0, none⟩) n n] w fun e w' => ∃ ao b cap, e = .returned (.slice ao n cap) ∧ Below w.heap.size w w' ∧ VRow w' ao n b H L ∧ w.heap.size ≤ b := by
  obtain ⟨i0, hi, hz0, hz1, hz2⟩ := info_parts info29
  have HI : Hid (_ ∧ _ ∧ _ ∧ _) := ⟨hi, hz0, hz1, hz2⟩
  clear hi hz0 hz1 hz2
  have eq25 := eq25
  obtain ⟨xs, hxl, hxc, hx1, hxv⟩ := vblk_row hV.out
  have HX : Hid (_ ∧ _ ∧ _ ∧ _) := ⟨hxl, hxc, hx1, hxv⟩
  clear hxl hxc hx1 hxv
  go_enter Yba.func4, Yba.ntmps4
  go_wp2_with (at_builtin; refine wpList_append_own _ (by rfl) (.tmp 5) (.tmp 6) 25 (by rfl) w.heap.size 29 i0 (.agg #[.int .u64 0, .int .u64 0]) 2 16 Yba.underlying25 HI.out.1 HI.out.2.1 HI.out.2.2.1 HI.out.2.2.2 (by rfl) (by decide) (.slice (some ⟨w.heap.size, 0, none⟩) 0 0) 0 [] (by rfl) (World.ownsRow_made w #[] 0 (Nat.le_refl _) (by decide) (by rfl)) ⟨B, 0, none⟩ n n xs (by rfl) HX.out.1 (fun j u hu => by rw [World.cell?_alloc_lt (h := World.block_lt_of_cell? _ _ (HX.out.2.1 j u hu))]; exact HX.out.2.1 j u hu) HX.out.2.2.1 (by unfold maxLen; omega) (by omega) (by simp) ?_; intro v' w1 hown' hgrow hn')
  have hb : Below w.heap.size w w1 := ((Below.refl _ w).alloc (Nat.le_refl _) _).grown hgrow (by simp) (fun k hk => by simp [Value.ownBlock] at hk; omega)
  have ho : w1.ownsRow w.heap.size 29 2 v' n xs := by simpa using hown'
  obtain ⟨ao, g, cap, rfl, ha, hg⟩ := own_form ho
  clear hown' hgrow hn' ho
  have HG : Hid ((ao = none → n = 0) ∧ _) := ⟨ha, hg⟩
  clear ha hg
  go_wp2
  go_ret
  by_cases h0 : n = 0
  · exact ⟨ao, w.heap.size, cap, rfl, hb, fun h => by omega, Nat.le_refl _⟩
  · cases ao with
    | none => exact absurd (HG.out.1 rfl) h0
    | some x =>
      obtain ⟨rfl, hbg, hc⟩ := HG.out.2 x rfl
      exact ⟨_, g, cap, rfl, hb, fun _ => ⟨rfl, fun i hi => ⟨(hc _ (by omega)).trans (HX.out.2.2.2 i hi).1, (hc _ (by omega)).trans (HX.out.2.2.2 i hi).2⟩⟩, hbg⟩

set_option maxRecDepth 100000 in
set_option maxHeartbeats 1000000 in
theorem clone30 (m base : Nat) (v : Value) (N TH TL : Nat → Nat) (w : World) (hm : m ≤ 4096) (hL : Hid (LS w base v m N TH TL)) :
    Calls Yba.prog 5 #[v] w fun e w' => ∃ ao b cap, e = .returned (.slice ao m cap) ∧ Below w.heap.size w w' ∧ LRow w' ao m b N TH TL ∧ w.heap.size ≤ b := by
  obtain ⟨i0, hi, hz0, hz1, hz2⟩ := info_parts info35
  have HI : Hid (_ ∧ _ ∧ _ ∧ _) := ⟨hi, hz0, hz1, hz2⟩
  clear hi hz0 hz1 hz2
  have eq30 := eq30
  obtain ⟨xs, hown, hx1, hxv⟩ := hL.out
  have hxl := hown.1
  obtain ⟨vo, vg, vc, rfl, hv0, hv1⟩ := own_form hown
  have HX : Hid (_ ∧ _ ∧ _ ∧ _) := ⟨hxl, hv1, hx1, hxv⟩
  clear hown hxl hv1 hx1 hxv
  cases vo with
  | none =>
    obtain rfl := hv0 rfl
    clear hv0
    go_enter Yba.func5, Yba.ntmps5
    go_wp2
    go_ret
    exact ⟨none, w.heap.size, 0, rfl, Below.refl _ _, fun h => by omega, Nat.le_refl _⟩
  | some x =>
    have hxe : x = ⟨vg, 0, none⟩ := (HX.out.2.1 x rfl).1
    subst hxe
    clear hv0
    have HN : Hid (∀ j u, xs[j]? = some u → (w.alloc (.cells #[] 35)).cell? ((⟨vg, 0, none⟩ : Addr).add j) = some u) := fun j u hu => by
      have hj : j < m * 3 := by have := (List.getElem?_eq_some_iff.1 hu).1; have := HX.out.1; omega
      have hc := ((HX.out.2.1 _ rfl).2.2 j hj).trans hu
      rw [Addr.add_lit, Nat.zero_add, World.cell?_alloc_lt (h := World.block_lt_of_cell? _ _ hc)]
      exact hc
    go_enter Yba.func5, Yba.ntmps5
    go_wp2_with (at_builtin; refine wpList_append_own _ (by rfl) (.tmp 5) (.tmp 6) 30 (by rfl) w.heap.size 35 i0 (.agg #[.int .i64 0, .int .u64 0, .int .u64 0]) 3 24 Yba.underlying30 HI.out.1 HI.out.2.1 HI.out.2.2.1 HI.out.2.2.2 (by rfl) (by decide) (.slice (some ⟨w.heap.size, 0, none⟩) 0 0) 0 [] (by rfl) (World.ownsRow_made w #[] 0 (Nat.le_refl _) (by decide) (by rfl)) ⟨vg, 0, none⟩ m vc xs (by rfl) HX.out.1 HN.out HX.out.2.2.1 (by unfold maxLen; omega) (by omega) (by simp) ?_; intro v' w1 hown' hgrow hn')
    have hb : Below w.heap.size w w1 := ((Below.refl _ w).alloc (Nat.le_refl _) _).grown hgrow (by simp) (fun k hk => by simp [Value.ownBlock] at hk; omega)
    have ho : w1.ownsRow w.heap.size 35 3 v' m xs := by simpa using hown'
    obtain ⟨ao, g, cap, rfl, ha, hg⟩ := own_form ho
    clear hown' hgrow hn' ho
    have HG : Hid ((ao = none → m = 0) ∧ _) := ⟨ha, hg⟩
    clear ha hg
    go_wp2
    go_ret
    by_cases h0 : m = 0
    · exact ⟨ao, w.heap.size, cap, rfl, hb, fun h => by omega, Nat.le_refl _⟩
    · cases ao with
      | none => exact absurd (HG.out.1 rfl) h0
      | some x =>
        obtain ⟨rfl, hbg, hc⟩ := HG.out.2 x rfl
        exact ⟨_, g, cap, rfl, hb, fun _ => ⟨rfl, fun i hi => ⟨(hc _ (by omega)).trans (HX.out.2.2.2 i hi).1, (hc _ (by omega)).trans (HX.out.2.2.2 i hi).2.1, (hc _ (by omega)).trans (HX.out.2.2.2 i hi).2.2⟩⟩, hbg⟩

set_option maxRecDepth 100000 in
set_option maxHeartbeats 1000000 in
theorem equal_any (b1 b2 n c1 c2 : Nat) (a1 a2 : Option Addr) (N TH TL : Nat → Nat) (w : World) (hn : n ≤ 4096) (h1 : Hid (LRow w a1 n b1 N TH TL)) (h2 : Hid (LRow w a2 n b2 N TH TL)) :
    Calls Yba.prog 8 #[.slice a1 n c1, .slice a2 n c2] w fun e w' => e = .returned (.bool true) ∧ ∃ m, w' = w.drewN m := by
  go_enter Yba.func8, Yba.ntmps8
  go_wp2
  go_loopw [13] (fun i wr => ∃ k m : Nat, k ≤ n ∧ i = .int .i64 k ∧ wr = w.drewN m) (fun i _ => n - (intOf i).toNat)
  case atStart => exact ⟨0, 0, Nat.zero_le _, rfl, rfl⟩
  case round =>
    obtain ⟨k, m, hk, rfl, rfl⟩ := hrel
    by_cases hlt : k < n
    · obtain ⟨rfl, hcs⟩ := h1.out (by omega)
      obtain ⟨rfl, hds⟩ := h2.out (by omega)
      obtain ⟨x0, x1, x2⟩ := hcs k hlt
      obtain ⟨y0, y1, y2⟩ := hds k hlt
      have hk0 : (0 : Int) ≤ (k : Int) := by omega
      have hkn : (k : Int) < (n : Int) := by omega
      clear hcs hds
      go_wp2
      go_quiet (fail)
      go_wp2
      go_roundw
      case rel => exact ⟨k + 1, _, by omega, by go_num, rfl⟩
      case measure => simp [intOf]; omega
    · obtain rfl : k = n := by omega
      go_wp2
      go_ret
      exact ⟨rfl, _, rfl⟩
end Go.Proofs.Ybulkdmvy.Lift
