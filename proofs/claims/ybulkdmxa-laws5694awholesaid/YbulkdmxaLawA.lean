import Derived.Test.YbulkdmxaKeys
import Derived.Laws.StructEq
namespace Go.Proofs.Ybulkdmxa.Keys
open Go.ChangeShapes Go.WideShapes Go.ChangeAt Go.RowKit
set_option linter.unusedSimpArgs false

theorem made_row {w1 : World} {base e size n B : Nat} {xs : List Value} (h : w1.ownsRow base e size (.slice (some ⟨B, 0, none⟩) n n) n xs) : ∃ cur : Array Value, w1.heap[B]? = some (.cells cur e (0, 0)) ∧ cur.size = n * size := by
  rcases h.2 with ⟨h', _⟩ | ⟨g, cap, cur, h', _, hgg, _, _, hcs, _⟩
  · simp at h'
  · simp only [Value.slice.injEq, Option.some.injEq, Addr.mk.injEq, and_true, true_and] at h'
    obtain ⟨rfl, rfl⟩ := h'
    exact ⟨cur, hgg, hcs⟩

theorem copied {w1 : World} {dT sT ty elem s B n c : Nat} {sp : Option Addr} {cur : Array Value} (hu : Yba.prog.underlying dT = some (.slice elem)) (hs : (Yba.prog.info? elem).map (·.size) = some s)
    (hg : w1.heap[B]? = some (.cells cur elem (0, 0))) (hcs : cur.size = n * s) (cs : List Value) (hl : cs.length = n * s) (h1 : ∀ v ∈ cs, v.oneCell' = true)
    (hsrc : 0 < n → ∃ ad, sp = some ad ∧ ∀ j v, cs[j]? = some v → w1.cell? (ad.add j) = some v) :
    ∃ w2, Sem.run Yba.prog (Builtin.copy_ #[dT, sT] ty #[.slice (some ⟨B, 0, none⟩) n n, .slice sp n c]) w1 = .ok (goInt n) w2 ∧ Hid (w2.heap[B]? = some (.cells cs.toArray elem (0, 0))) ∧ Hid (Below B w1 w2) ∧ w2.heap.size = w1.heap.size := by
  cases hq : Yba.prog.info? elem with
  | none => simp [hq] at hs
  | some i =>
    have hi : i.size = s := by simpa [hq] using hs
    by_cases h0 : n = 0
    · subst h0
      obtain rfl : cs = [] := List.eq_nil_of_length_eq_zero (by simpa using hl)
      obtain rfl : cur = #[] := Array.eq_empty_of_size_eq_zero (by simpa using hcs)
      refine ⟨w1, ?_, hg, Below.refl _ _, rfl⟩
      cases sp with
      | none => simp [Builtin.copy_, run_underlying hu, Builtin.lenOf, Builtin.firstCells, sizeOf, typeInfo, hq, storeCells]
      | some ad =>
        have hl0 := run_loadCells_list (P := Yba.prog) w1 ad [] (by simp)
        simp only [List.length_nil] at hl0
        simp [Builtin.copy_, run_underlying hu, Builtin.lenOf, Builtin.firstCells, sizeOf, typeInfo, hq, storeCells, hl0]
    · obtain ⟨ad, rfl, hc⟩ := hsrc (by omega)
      have hld := run_loadCells_list (P := Yba.prog) w1 ad cs hc
      have hst := run_storeCells_at Yba.prog B 0 elem cs 0 cur w1 hg (by omega) h1
      rw [hl] at hld
      refine ⟨_, by simp [Builtin.copy_, run_underlying hu, Builtin.lenOf, Builtin.firstCells, sizeOf, typeInfo, hq, hi, hld, hst]; rfl, ?_, below_setRow (Below.refl _ _) (Nat.le_refl _) _, by simp [World.setRow]⟩
      unfold Hid
      rw [setRow_heap w1 _ _ _ elem _ hg]
      have e : cur.toList.drop cs.length = [] := List.drop_eq_nil_of_le (by simp; omega)
      simp [e]

/-- What is known of a slice of bytes that came in. -/
def U8 (w : World) (ao : Option Addr) (n b o : Nat) (z : Nat → Nat) : Prop := 0 < n → ao = some ⟨b, o, none⟩ ∧ b < w.heap.size ∧ ∀ i, i < n → w.cell? ⟨b, o + i, none⟩ = some (.int .u8 (z i : Int))
theorem info26 : (Yba.prog.info? 26).map (fun i => (i.size, i.bytes)) = some (32, 32) := by kernel_rfl
theorem zero26 : ∃ z i, Yba.prog.info? 26 = some i ∧ i.zero = some z ∧ i.size = 32 ∧ i.bytes = 32 := by
  obtain ⟨i, hi, h⟩ := Option.map_eq_some_iff.1 info26
  have hz : ((Yba.prog.info? 26).bind (·.zero)).isSome = true := by kernel_rfl
  rw [hi] at hz
  obtain ⟨z, hz'⟩ := Option.isSome_iff_exists.1 hz
  simp at h
  exact ⟨z, i, hi, hz', h.1, h.2⟩

theorem grown_below {w w1 : World} (hg : w.grownBy w1 none) : Below w.heap.size w w1 := ⟨hg.os, hg.tape, hg.output, hg.size, fun k hk => hg.block k hk (by simp)⟩
theorem src8 {w w1 : World} {ao : Option Addr} {n b o : Nat} {z : Nat → Nat} (h : U8 w ao n b o z) (hb : Below w.heap.size w w1) : 0 < n → ∃ ad, ao = some ad ∧ ∀ j v, (bts z n)[j]? = some v → w1.cell? (ad.add j) = some v := fun h0 => by
  obtain ⟨rfl, hl, hc⟩ := h h0
  refine ⟨_, rfl, fun j v hv => ?_⟩
  obtain ⟨hj, rfl⟩ := bts_some _ _ _ _ hv
  rw [Addr.add_lit, hb.cell (by exact hl)]
  exact hc j hj
theorem srcK {w w1 : World} {ao : Option Addr} {n b o : Nat} {K : Nat → Nat} (h : KRow w ao n b o K) (hb : Below w.heap.size w w1) : 0 < n → ∃ ad, ao = some ad ∧ ∀ j v, (bts K (n * 32))[j]? = some v → w1.cell? (ad.add j) = some v := fun h0 => by
  obtain ⟨rfl, hl, hc⟩ := h h0
  refine ⟨_, rfl, fun j v hv => ?_⟩
  obtain ⟨hj, rfl⟩ := bts_some _ _ _ _ hv
  rw [Addr.add_lit, hb.cell (by exact hl)]
  exact hc j hj
theorem size5 : (Yba.prog.info? 5).map (·.size) = some 1 := by kernel_rfl
theorem KRow.below {w w' : World} {ao : Option Addr} {n b o : Nat} {K : Nat → Nat} (h : KRow w ao n b o K) (hb : Below w.heap.size w w') : KRow w' ao n b o K := fun h0 => by
  obtain ⟨e, hl, hc⟩ := h h0
  exact ⟨e, Nat.lt_of_lt_of_le hl hb.size, fun i hi => (hb.cell (by exact hl)).trans (hc i hi)⟩

theorem own_form {w : World} {base e n : Nat} {v : Value} {xs : List Value} (h0 : 0 < n) (h : w.ownsRow base e 1 v n xs) :
    ∃ g cap, v = .slice (some ⟨g, 0, none⟩) n cap ∧ ∀ i, i < n → w.cell? ⟨g, i, none⟩ = xs[i]? := by
  rcases h.2 with ⟨h', rfl, _⟩ | ⟨g, cap, cur, h', hbg, hgg, _, _, hcs, htake⟩
  · omega
  · refine ⟨g, cap, h', fun i hi => ?_⟩
    rw [cell_of_row _ _ _ _ _ _ hgg, ← htake]
    rw [List.getElem?_take_of_lt (by omega)]
    simp
theorem full_old (G K : Nat → Nat) (n0 : Nat) (v : Int) (q i : Nat) (hi : i < n0) : (full G K n0 v q)[i]? = some (.int .u8 (G i : Int)) := by
  unfold full
  rw [List.append_assoc, List.getElem?_append_left (by rw [bts_len]; exact hi), bts_get, if_pos hi]
theorem full_lo (G K : Nat → Nat) (n0 : Nat) (v : Int) (q : Nat) : (full G K n0 v q)[n0]? = some (.int .u8 (v % 256)) := by
  unfold full
  rw [List.append_assoc, List.getElem?_append_right (by rw [bts_len]; omega), bts_len]
  simp
theorem full_hi (G K : Nat → Nat) (n0 : Nat) (v : Int) (q : Nat) : (full G K n0 v q)[n0 + 1]? = some (.int .u8 (v / 256 % 256)) := by
  unfold full
  rw [List.append_assoc, List.getElem?_append_right (by rw [bts_len]; omega), bts_len]
  simp
theorem full_key (G K : Nat → Nat) (n0 : Nat) (v : Int) (q i : Nat) (hi : i < q * 32) : (full G K n0 v q)[n0 + 2 + i]? = some (.int .u8 (K i : Int)) := by
  unfold full
  rw [List.getElem?_append_right (by rw [List.length_append, bts_len]; simp)]
  have e : n0 + 2 + i - (bts G n0 ++ [Value.int .u8 (v % 256), .int .u8 (v / 256 % 256)]).length = i := by rw [List.length_append, bts_len]; simp
  rw [e, bts_get, if_pos hi]

/-- All that stands behind the call of appendKeys. -/
structure Done (w W : World) (a0 a1 : Option Addr) (n0 b0 o0 n1 kb ko B1 g : Nat) (z K : Nat → Nat) : Prop where
  bel : Below w.heap.size w W
  b : U8 W a0 n0 b0 o0 z
  k : KRow W a1 n1 kb ko K
  bc : ∀ i, i < n0 → W.cell? ⟨w.heap.size, i, none⟩ = some (.int .u8 (z i : Int))
  kc : ∀ i, i < n1 * 32 → W.cell? ⟨B1, i, none⟩ = some (.int .u8 (K i : Int))
  old : ∀ i, i < n0 → W.cell? ⟨g, i, none⟩ = some (.int .u8 (z i : Int))
  lo : W.cell? ⟨g, n0, none⟩ = some (.int .u8 ((n1 : Int) % 256))
  hi : W.cell? ⟨g, n0 + 1, none⟩ = some (.int .u8 ((n1 : Int) / 256 % 256))
  key : ∀ i, i < n1 * 32 → W.cell? ⟨g, n0 + 2 + i, none⟩ = some (.int .u8 (K i : Int))
theorem done_mk {w w2 w4 w5 : World} {a0 a1 : Option Addr} {n0 b0 o0 n1 kb ko : Nat} {z K : Nat → Nat} {v : Value} (h0 : U8 w a0 n0 b0 o0 z) (h1 : KRow w a1 n1 kb ko K) (hW2 : Below w.heap.size w w2)
    (h2 : w2.heap[w.heap.size]? = some (.cells (bts z n0).toArray 5 (0, 0))) (hW4 : Below w2.heap.size w2 w4) (h4 : w4.heap[w2.heap.size]? = some (.cells (bts K (n1 * 32)).toArray 26 (0, 0)))
    (hW5 : Below w4.heap.size w4 w5) (ho : w5.ownsRow w4.heap.size 5 1 v (n0 + 2 + n1 * 32) (full z K n0 ((n1 : Int) % 65536) n1)) :
    ∃ g cap, v = .slice (some ⟨g, 0, none⟩) (n0 + 2 + n1 * 32) cap ∧ Done w w5 a0 a1 n0 b0 o0 n1 kb ko w2.heap.size g z K := by
  obtain ⟨g, cap, hv, hc⟩ := own_form (by omega) ho
  have l2 : w.heap.size < w2.heap.size := (Array.getElem?_eq_some_iff.1 h2).1
  have l4 : w2.heap.size < w4.heap.size := (Array.getElem?_eq_some_iff.1 h4).1
  have hB : Below w.heap.size w w5 := (hW2.trans (hW4.mono (by omega))).trans (hW5.mono (by omega))
  refine ⟨g, cap, hv, hB, fun h => ?_, h1.below hB, fun i hi => ?_, fun i hi => ?_, fun i hi => ?_, ?_, ?_, fun i hi => ?_⟩
  · obtain ⟨e, hl, hcs⟩ := h0 h
    exact ⟨e, Nat.lt_of_lt_of_le hl hB.size, fun i hi => (hB.cell (by exact hl)).trans (hcs i hi)⟩
  · have e : w5.heap[w.heap.size]? = _ := (hW5.block _ (by omega)).trans ((hW4.block _ l2).trans h2)
    rw [cell_of_row _ _ _ _ _ _ e]
    simpa [hi] using bts_get z n0 i
  · have e : w5.heap[w2.heap.size]? = _ := (hW5.block _ l4).trans h4
    rw [cell_of_row _ _ _ _ _ _ e]
    simpa [hi] using bts_get K (n1 * 32) i
  · rw [hc i (by omega), full_old _ _ _ _ _ _ hi]
  · rw [hc n0 (by omega), full_lo, show (n1 : Int) % 65536 % 256 = (n1 : Int) % 256 by omega]
  · rw [hc (n0 + 1) (by omega), full_hi, show (n1 : Int) % 65536 / 256 % 256 = (n1 : Int) / 256 % 256 by omega]
  · rw [hc _ (by omega), full_key _ _ _ _ _ _ hi]

theorem run_equal_key (w : World) (d : Nat) (K : Nat → Nat) (q : Nat) : (Op.equalIn (d + 2) 26 (.agg (key K q).toArray) (.agg (key K q).toArray)).run Yba.prog w = .ok true w := by
  have hsz : ∀ w, (sizeOf 5).run Yba.prog w = .ok 1 w := fun w => by
    obtain ⟨i, hi, h⟩ := Option.map_eq_some_iff.1 size5
    simp [sizeOf, typeInfo, hi, h]
  rw [Op.equalIn]
  simp only [Sem.run_bind, run_underlying Yba.underlying26, Result.andThen_ok, hsz, Std.Legacy.Range.forIn_eq_forIn_range', Std.Legacy.Range.size, Nat.sub_zero, Nat.add_sub_cancel, Nat.div_one]
  have hl : ∀ i ∈ List.range' 0 32 1, i < 32 := fun i hi => by simpa using (List.mem_range'_1.1 hi).2
  generalize List.range' 0 32 1 = l at hl ⊢
  induction l with
  | nil => simp
  | cons i l ih =>
    have hi : i < 32 := hl i (by simp)
    have hget : (key K q)[i]? = some (.int .u8 (K (q * 32 + i) : Int)) := by rw [key, bts_get, if_pos hi]
    have px : (part 5 (key K q).toArray (i * 1)).run Yba.prog w = .ok (.int .u8 (K (q * 32 + i) : Int)) w := by
      simp [part, isAgg, run_underlying Yba.underlying5, hget]
    have pe : (Op.equalIn (d + 1) 5 (.int .u8 (K (q * 32 + i) : Int)) (.int .u8 (K (q * 32 + i) : Int))).run Yba.prog w = .ok true w := by
      rw [run_equalIn_int w d 5 .u8 .u8 _ _ Yba.underlying5]
      simp
    simp only [List.forIn_cons, Sem.run_bind, px, pe, Result.andThen_ok]
    simp only [Bool.not_true, Bool.false_eq_true, if_false, Sem.run_pure, Result.andThen_ok]
    exact ih fun j hj => hl j (by simp [hj])
theorem run_neq_key (w : World) (K : Nat → Nat) (q : Nat) : (binOp .neq 26 (.agg (key K q).toArray) (.agg (key K q).toArray)).run Yba.prog w = .ok (.bool false) w := by
  have h : (Op.equal 26 (.agg (key K q).toArray) (.agg (key K q).toArray)).run Yba.prog w = .ok true w := run_equal_key w 9998 K q
  simp only [binOp]
  simp [h]
theorem wpQuiet_value {P : Program} {ops : Array Oper} {C : World → Prop} {Q : Act → Prop} {a : Act} {o : Oper} {rest : List Oper} (hg : o.guard = none) (v : Value) (hv : ∀ w, C w → (execOp a.eval o).run P w = .ok (.value v) w)
    (h : wpQuiet P ops C Q rest (a.put o.dst v)) : wpQuiet P ops C Q (o :: rest) a := by
  have hw : Region.wanted o (yielded ops a.tmps) = true := by simp [Region.wanted, hg]
  unfold wpQuiet
  rw [if_pos hw]
  refine ⟨v, fun w hC => ?_, h⟩
  unfold Oper.quietAt
  rw [hv w hC]
  exact ⟨rfl, rfl⟩
theorem wpQuiet_load_key {W : World} {m : Nat} {ops : Array Oper} {Q : Act → Prop} {a : Act} {o : Oper} {rest : List Oper} (hg : o.guard = none) (x : Operand) (ho : o.op = .load 26 x) (b off : Nat) (hx : a.eval x = .pointer (some ⟨b, off, none⟩)) (K : Nat → Nat) (q : Nat)
    (hr : W.rangeAt b off (key K q)) (h : wpQuiet Yba.prog ops (fun w' => ∃ n, w' = (W.drewN m).drewN n) Q rest (a.put o.dst (.agg (key K q).toArray))) : wpQuiet Yba.prog ops (fun w' => ∃ n, w' = (W.drewN m).drewN n) Q (o :: rest) a := by
  refine wpQuiet_value hg _ (fun w hC => ?_) h
  obtain ⟨n, rfl⟩ := hC
  have hr' : ((W.drewN m).drewN n).rangeAt b off (key K q) := fun j v hv => by have := hr j v hv; simpa using this
  unfold execOp
  simp only [ho, hx, Instr.loadAt, Instr.sureAddr, Sem.run_bind, Sem.run_pure, Result.andThen_ok, run_loadVar_mid _ b off 26 (key K q) _ hr' Yba.underlying26 rfl (size26k K q)]
theorem wpQuiet_neq_key {C : World → Prop} {ops : Array Oper} {Q : Act → Prop} {a : Act} {o : Oper} {rest : List Oper} (hg : o.guard = none) (x y : Operand) (ho : o.op = .binOp .neq 26 x y 26) (K : Nat → Nat) (q : Nat) (hx : a.eval x = .agg (key K q).toArray) (hy : a.eval y = .agg (key K q).toArray)
    (h : wpQuiet Yba.prog ops C Q rest (a.put o.dst (.bool false))) : wpQuiet Yba.prog ops C Q (o :: rest) a := by
  refine wpQuiet_value hg _ (fun w hC => ?_) h
  unfold execOp
  have hm : Yba.prog.eqGuardType Yba.prog.depth 26 = false := by kernel_rfl
  simp [ho, hx, hy, run_eqGuard_agg w .neq 26 x y _ _ hm, run_neq_key w K q]

set_option maxRecDepth 100000 in
set_option maxHeartbeats 1000000 in
theorem lawA (n0 c0 b0 o0 n1 c1 kb ko : Nat) (a0 a1 : Option Addr) (z K : Nat → Nat) (w : World) (hn0 : n0 ≤ 1048576) (hn1 : n1 ≤ 65536) (h0 : Hid (U8 w a0 n0 b0 o0 z)) (h1 : Hid (KRow w a1 n1 kb ko K)) :
    Calls Yba.prog 3 #[.slice a0 n0 c0, .slice a1 n1 c1] w fun e w' => e = .returned (.bool true) ∧ Below w.heap.size w w' := by
  have t0 : decide ((1048576 : Int) < (n0 : Int)) = false := decide_eq_false (by omega)
  have t1 : decide ((65536 : Int) < (n1 : Int)) = false := decide_eq_false (by omega)
  obtain ⟨i0, hi, hz0, hz1, hz2⟩ := info_parts info5
  have HI : Hid (_ ∧ _ ∧ _ ∧ _) := ⟨hi, hz0, hz1, hz2⟩
  have hby0 : Hid (i0.bytes * n0 ≤ 281474976710656) := by unfold Hid; rw [hz2]; omega
  obtain ⟨zz, i1, hj, hjz, hjs, hjb⟩ := zero26
  have HJ : Hid (_ ∧ _ ∧ _ ∧ _) := ⟨hj, hjz, hjs, hjb⟩
  have hby1 : Hid (i1.bytes * n1 ≤ 281474976710656) := by unfold Hid; rw [hjb]; omega
  clear hi hz0 hz1 hz2 hj hjz hjs hjb
  go_enter Yba.func3, Yba.ntmps3
  go_wp2_with (at_make; refine wpList_make_full _ (by rfl) (.tmp 24) (.tmp 24) 22 (by rfl) w.heap.size 5 i0 (.int .u8 0) 1 Yba.underlying22 HI.out.1 HI.out.2.1 HI.out.2.2.1 .i64 .i64 (n0 : Int) (n0 : Int) n0 (by rfl) (by rfl) (by rfl) (by rfl) hby0.out (by unfold maxLen; omega) (Nat.le_refl _) ?_; intro w1 hown1 hgrow1)
  obtain ⟨cur, hr1, hc1⟩ := made_row hown1
  have hB1 := grown_below hgrow1
  have hs1 : w.heap.size < w1.heap.size := (Array.getElem?_eq_some_iff.1 hr1).1
  obtain ⟨w2, hrun2, H2, HB2, hs2⟩ := copied (dT := 22) (sT := 22) (ty := 3) (c := c0) Yba.underlying22 size5 hr1 hc1 (bts z n0) (by rw [bts_len]; omega) (bts_one _ _) (src8 h0.out hB1)
  have HW2 : Hid (Below w.heap.size w w2) := hB1.trans HB2.out
  clear hown1 hgrow1 hr1 hc1
  rw [hrun2]
  clear hrun2
  have hs2' : w.heap.size < w2.heap.size := by omega
  clear hs1 hs2 HB2 hB1
  go_wp2_with (at_make; refine wpList_make_full _ (by rfl) (.tmp 30) (.tmp 30) 23 (by rfl) w2.heap.size 26 i1 zz 32 Yba.underlying23 HJ.out.1 HJ.out.2.1 HJ.out.2.2.1 .i64 .i64 (n1 : Int) (n1 : Int) n1 (by rfl) (by rfl) (by rfl) (by rfl) hby1.out (by unfold maxLen; omega) (Nat.le_refl _) ?_; intro w3 hown1 hgrow1)
  obtain ⟨cur1, hr1, hc1⟩ := made_row hown1
  have hB1 := grown_below hgrow1
  have hs1 : w2.heap.size < w3.heap.size := (Array.getElem?_eq_some_iff.1 hr1).1
  obtain ⟨w4, hrun2, H4, HB2, hs2⟩ := copied (dT := 23) (sT := 23) (ty := 3) (c := c1) Yba.underlying23 size26 hr1 hc1 (bts K (n1 * 32)) (by rw [bts_len]) (bts_one _ _) (srcK h1.out (HW2.out.trans (hB1.mono (by omega))))
  have HW4 : Hid (Below w2.heap.size w2 w4) := hB1.trans HB2.out
  clear hown1 hgrow1 hr1 hc1
  rw [hrun2]
  clear hrun2
  have hs4 : w2.heap.size < w4.heap.size := by omega
  clear hs1 hs2 HB2 hB1
  go_wp2_with fail
  refine (keys_any w.heap.size n0 n1 c1 kb ko a1 z K w4 hn0 hn1 ((HW4.out.block _ hs2').trans H2.out) (h1.out.below (HW2.out.trans (HW4.out.mono (by omega))))).mono ?_
  rintro e W ⟨v', rfl, hb5, ho5⟩
  obtain ⟨g, cap, rfl, D⟩ := done_mk h0.out h1.out HW2.out H2.out HW4.out H4.out hb5 ho5
  have HD : Hid (Done w W a0 a1 n0 b0 o0 n1 kb ko w2.heap.size g z K) := D
  clear D hb5 ho5 H2 HW2 H4 HW4 h0 h1 hs2' hs4
  generalize hN : n0 + 2 + n1 * 32 = N
  have hN0 : (N : Int) = (n0 : Int) + 2 + 32 * (n1 : Int) := by omega
  have hNe : ((N : Int) != (n0 : Int) + 2 + 32 * (n1 : Int)) = false := by simp; omega
  have HN : Hid ((N : Int) = (n0 : Int) + 2 + 32 * (n1 : Int)) := hN0
  clear hN0 hN
  go_wp2_with fail
  go_loopw [9] (fun i wr => ∃ q m : Nat, q ≤ n0 ∧ i = .int .i64 q ∧ wr = W.drewN m) (fun i _ => n0 - (intOf i).toNat)
  case atStart => exact ⟨0, 0, by omega, rfl, rfl⟩
  case round =>
    obtain ⟨q, m, hq, rfl, rfl⟩ := hrel
    by_cases hlt : q < n0
    · obtain ⟨rfl, hbl, hbc⟩ := HD.out.b (by omega)
      have r1 := hbc q hlt
      have r2 := HD.out.old q hlt
      have hq0 : (0 : Int) ≤ (q : Int) := by omega
      have hqn : (q : Int) < (n0 : Int) := by omega
      have hqN : (q : Int) < (N : Int) := by have := HN.out; omega
      clear hbl hbc
      go_wp2_with fail
      go_quiet (fail)
      go_wp2
      go_roundw
      case rel => exact ⟨q + 1, _, by omega, by go_num, rfl⟩
      case measure => simp [intOf]; omega
    · have r1 := HD.out.lo
      have r2 := HD.out.hi
      have hl1 : (n0 : Int) < (N : Int) := by have := HN.out; omega
      have hl2 : (n0 : Int) + 1 < (N : Int) := by have := HN.out; omega
      go_wp2_with fail
      clear r1 r2
      go_loopw [11] (fun i wr => ∃ q m : Nat, q ≤ n1 ∧ i = .int .i64 q ∧ wr = W.drewN m) (fun i _ => n1 - (intOf i).toNat)
      case atStart => exact ⟨0, _, by omega, rfl, rfl⟩
      case round =>
        obtain ⟨p, m1, hp, rfl, rfl⟩ := hrel
        by_cases hlt : p < n1
        · obtain ⟨rfl, hkl, hkc⟩ := HD.out.k (by omega)
          have HK : Hid (∀ i, i < n1 * 32 → W.cell? ⟨kb, ko + i, none⟩ = some (.int .u8 (K i : Int))) := hkc
          clear hkl hkc
          have hp0 : (0 : Int) ≤ (p : Int) := by omega
          have hpn : (p : Int) < (n1 : Int) := by omega
          go_wp2
          go_loopw [12] (fun j wr => ∃ t m : Nat, t ≤ 32 ∧ j = .int .i64 t ∧ wr = W.drewN m) (fun j _ => 32 - (intOf j).toNat)
          case atStart => exact ⟨0, _, by omega, rfl, rfl⟩
          case round =>
            obtain ⟨t, m2, ht, rfl, rfl⟩ := hrel
            by_cases hlt2 : t < 32
            · have r1 : W.cell? ⟨g, n0 + 2 + 32 * p + t, none⟩ = some (.int .u8 (K (p * 32 + t) : Int)) := by
                rw [show n0 + 2 + 32 * p + t = n0 + 2 + (p * 32 + t) by omega]
                exact HD.out.key _ (by omega)
              have r2 : W.cell? ⟨kb, ko + p * 32 + t, none⟩ = some (.int .u8 (K (p * 32 + t) : Int)) := by
                rw [Nat.add_assoc]
                exact HK.out _ (by omega)
              have ht0 : (0 : Int) ≤ (t : Int) := by omega
              have htn : (t : Int) < 32 := by omega
              have hix : (n0 : Int) + 2 + 32 * (p : Int) + (t : Int) < (N : Int) := by have := HN.out; omega
              go_wp2_with fail
              go_quiet (fail)
              go_wp2
              go_roundw
              case rel => exact ⟨t + 1, _, by omega, by go_num, rfl⟩
              case measure => simp [intOf]; omega
            · go_wp2
              go_roundw
              case rel => exact ⟨p + 1, _, by omega, by go_num, rfl⟩
              case measure => simp [intOf]; omega
        · go_wp2_with fail
          go_loopw [13] (fun i wr => ∃ q m : Nat, q ≤ n1 ∧ i = .int .i64 q ∧ wr = W.drewN m) (fun i _ => n1 - (intOf i).toNat)
          case atStart => exact ⟨0, _, by omega, rfl, rfl⟩
          case round =>
            obtain ⟨p, m3, hp, rfl, rfl⟩ := hrel
            by_cases hlt : p < n1
            · obtain ⟨rfl, hkl, hkc⟩ := HD.out.k (by omega)
              have HR1 : Hid (W.rangeAt w2.heap.size (p * 32) (key K p)) := fun j v hv => by
                obtain ⟨hj, rfl⟩ := bts_some _ _ _ _ hv
                exact HD.out.kc _ (by omega)
              have HR2 : Hid (W.rangeAt kb (ko + p * 32) (key K p)) := fun j v hv => by
                obtain ⟨hj, rfl⟩ := bts_some _ _ _ _ hv
                rw [Nat.add_assoc]
                exact hkc _ (by omega)
              clear hkl hkc
              have hp0 : (0 : Int) ≤ (p : Int) := by omega
              have hpn : (p : Int) < (n1 : Int) := by omega
              go_wp2_with fail
              refine wp_region_quiet_lit (by kernel_rfl) (by kernel_rfl) ?_
              iterate 3 (quiet_step (fail))
              refine wpQuiet_load_key (by rfl) (.tmp 119) (by rfl) w2.heap.size (p * 32) (by rfl) K p HR1.out ?_
              iterate 3 (quiet_step (fail))
              refine wpQuiet_load_key (by rfl) (.tmp 123) (by rfl) kb (ko + p * 32) (by rfl) K p HR2.out ?_
              refine wpQuiet_neq_key (by rfl) (.tmp 120) (.tmp 124) (by rfl) K p (by rfl) (by rfl) ?_
              refine wpQuiet_nil ?_
              rintro _ ⟨nq, rfl⟩
              go_wp2
              go_roundw
              case rel => exact ⟨p + 1, _, by omega, by go_num, rfl⟩
              case measure => simp [intOf]; omega
            · go_wp2_with fail
              go_loopw [14] (fun i wr => ∃ q m : Nat, q ≤ n0 ∧ i = .int .i64 q ∧ wr = W.drewN m) (fun i _ => n0 - (intOf i).toNat)
              case atStart => exact ⟨0, _, by omega, rfl, rfl⟩
              case round =>
                obtain ⟨q, m, hq, rfl, rfl⟩ := hrel
                by_cases hlt : q < n0
                · obtain ⟨rfl, hbl, hbc⟩ := HD.out.b (by omega)
                  have r1 := hbc q hlt
                  have r2 := HD.out.bc q hlt
                  have hq0 : (0 : Int) ≤ (q : Int) := by omega
                  have hqn : (q : Int) < (n0 : Int) := by omega
                  clear hbl hbc
                  go_wp2_with fail
                  go_quiet (fail)
                  go_wp2
                  go_roundw
                  case rel => exact ⟨q + 1, _, by omega, by go_num, rfl⟩
                  case measure => simp [intOf]; omega
                · go_wp2
                  go_ret
                  exact ⟨rfl, HD.out.bel.os, HD.out.bel.tape, HD.out.bel.output, HD.out.bel.size, HD.out.bel.block⟩

set_option maxRecDepth 100000 in
set_option maxHeartbeats 1000000 in
theorem lawA_big (n0 c0 n1 c1 : Nat) (a0 a1 : Option Addr) (w : World) (h : 1048576 < n0 ∨ 65536 < n1) :
    Calls Yba.prog 3 #[.slice a0 n0 c0, .slice a1 n1 c1] w fun e w' => e = .returned (.bool true) ∧ Below w.heap.size w w' := by
  by_cases h0 : 1048576 < n0
  · have t0 : decide ((1048576 : Int) < (n0 : Int)) = true := decide_eq_true (by omega)
    go_enter Yba.func3, Yba.ntmps3
    go_wp2
    go_ret
    exact ⟨rfl, Below.refl _ _⟩
  · have t0 : decide ((1048576 : Int) < (n0 : Int)) = false := decide_eq_false (by omega)
    have t1 : decide ((65536 : Int) < (n1 : Int)) = true := decide_eq_true (by omega)
    go_enter Yba.func3, Yba.ntmps3
    go_wp2
    go_ret
    exact ⟨rfl, Below.refl _ _⟩
end Go.Proofs.Ybulkdmxa.Keys
