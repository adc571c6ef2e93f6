import Derived.Test.YbulkdmwmRows
import Derived.WalkKit
import Derived.ProofKit
import Derived.Below
import Derived.WalkSpells
import Derived.WalkLawsBesides
import Derived.Deep.RegionLaw
import Derived.Deep.AppendLies
import Derived.Deep.DrawnRows
namespace Go.Proofs.Ybulkdmwm
open Go.ChangeShapes Go.WideShapes Go.ChangeAt Go.RowKit

/-- The cells of one statistic: its name, relation, form, values (a slice of one string at block g). -/
def par (vals : Bool) (s : ByteArray) (g : Nat) : List Value :=
  if vals then [.string s, .int .u8 1, .int .u8 0, .slice (some ⟨g, 0, none⟩) 1 1] else [.string s, .int .u8 0, .int .u8 0, .slice none 0 0]

theorem two_new (w : World) (a b c : Obj) : (((w.alloc a).alloc b).alloc c).heap[w.heap.size + 1 + 1]? = some c := by
  have := heap_alloc_new ((w.alloc a).alloc b) c
  simpa using this

theorem stat_any (s : ByteArray) (vals : Bool) (w : World) :
    Calls Yba.prog 10 #[.string s, .bool vals] w fun e w' => ∃ g, e = .returned (.agg (par vals s g).toArray) ∧ Below w.heap.size w w' ∧ w.heap.size ≤ g ∧ g < w'.heap.size ∧ (vals = true → w'.heap[g]? = some (.cells #[.string ⟨#[48]⟩] 9 (0, 0))) := by
  cases vals
  · go_enter Yba.func10, Yba.ntmps10
    go_wp2
    refine bodyPost_ret (v := .agg (par false s w.heap.size).toArray) (by simp [results, Yba.results10, go_sem, par]) rfl ⟨w.heap.size, rfl, ?_, Nat.le_refl _, by simp; omega, by simp⟩
    exact ((Below.refl _ _).alloc (Nat.le_refl _) _).alloc (by simp) _
  · go_enter Yba.func10, Yba.ntmps10
    go_wp2
    refine bodyPost_ret (v := .agg (par true s (w.heap.size + 1 + 1)).toArray) (by simp [results, Yba.results10, go_sem, par]) rfl ⟨w.heap.size + 1 + 1, rfl, ?_, by omega, by simp, fun _ => ?_⟩
    · exact (((Below.refl _ _).alloc (Nat.le_refl _) _).alloc (by simp) _).alloc (by simp; omega) _
    · exact two_new w _ _ _

theorem nm10 : (Yba.f10.name == "runtime.NumGoroutine") = false := by kernel_rfl
theorem bd10 : Yba.f10.body.isNone = false := by kernel_rfl
theorem info75 : (Yba.prog.info? 75).map (fun i => (i.zero, i.size, i.bytes)) = some (some (.agg #[.string ⟨#[]⟩, .int .u8 0, .int .u8 0, .slice none 0 0]), 4, 48) := by kernel_rfl

/-- What the loop of 'statistics' has built behind k rounds. -/
structure SL (B sb : Nat) (vals : Bool) (nm : Nat → ByteArray) (k : Nat) (v : Value) (xs : List Value) (g : Nat → Nat) (wr : World) : Prop where
  box : wr.heap[sb]? = some (.cells #[v] 71 (0, 0))
  own : wr.ownsRow B 75 4 v k xs
  nil : k = 0 → v = .slice none 0 0
  cells : xs = (List.range k).flatMap fun i => par vals (nm i) (g i)
  text : vals = true → ∀ i, i < k → wr.heap[g i]? = some (.cells #[.string ⟨#[48]⟩] 9 (0, 0))
  lo : ∀ i, i < k → B ≤ g i
  lt : ∀ i, i < k → g i < wr.heap.size
  ne : ∀ i, i < k → v.ownBlock ≠ some (g i)
  inj : ∀ i j, i < j → j < k → g i ≠ g j

theorem setCell_box {w : World} {sb : Nat} {v v' : Value} {t : TypeId} (h : w.heap[sb]? = some (.cells #[v] t (0, 0))) : (w.setCell ⟨sb, 0, none⟩ v').heap[sb]? = some (.cells #[v'] t (0, 0)) := by
  rw [heap_setCell_same w sb 0 #[v] t v' h]; rfl

theorem sl_step {B sb : Nat} {vals : Bool} {nm : Nat → ByteArray} {k : Nat} {v : Value} {xs : List Value} {g : Nat → Nat} {wr wA w1 : World} {o : Obj} {gn gB cap : Nat}
    (h : SL B sb vals nm k v xs g wr) (hsB : sb < B) (hB : B ≤ wr.heap.size) (hb : Below wr.heap.size wr wA) (hg1 : wr.heap.size ≤ gn) (hg2 : gn < wA.heap.size)
    (ht : vals = true → wA.heap[gn]? = some (.cells #[.string ⟨#[48]⟩] 9 (0, 0)))
    (hown : w1.ownsRow B 75 4 (.slice (some ⟨gB, 0, none⟩) (k + 1) cap) (k + 1) (xs ++ par vals (nm k) gn)) (hgrow : (wA.alloc o).grownBy w1 v.ownBlock)
    (hat : v.ownBlock = some gB ∨ gB = wA.heap.size + 1) :
    SL B sb vals nm (k + 1) (.slice (some ⟨gB, 0, none⟩) (k + 1) cap) (xs ++ par vals (nm k) gn) (fun i => if i = k then gn else g i) (w1.setCell ⟨sb, 0, none⟩ (.slice (some ⟨gB, 0, none⟩) (k + 1) cap)) := by
  have hvlt : ∀ b, v.ownBlock = some b → B ≤ b ∧ b < wr.heap.size := h.own.lt
  have hsz : wA.heap.size + 1 ≤ w1.heap.size := by have := hgrow.size; simpa using this
  have hs := hb.size
  have old : ∀ b, b < wr.heap.size → v.ownBlock ≠ some b → w1.heap[b]? = wr.heap[b]? := fun b hb1 hb2 => by
    rw [hgrow.block b (by simp; omega) (fun e => hb2 e.symm), heap_alloc_old (h := by omega), hb.block b hb1]
  have hbox : w1.heap[sb]? = some (.cells #[v] 71 (0, 0)) := by
    rw [old sb (by omega) (fun e => by have := hvlt _ e; omega)]; exact h.box
  have hgB : B ≤ gB := by
    rcases hat with e | e
    · exact (hvlt _ e).1
    · omega
  have other : ∀ b, b ≠ sb → (w1.setCell ⟨sb, 0, none⟩ (.slice (some ⟨gB, 0, none⟩) (k + 1) cap)).heap[b]? = w1.heap[b]? := fun b hb1 => heap_setCell_other _ _ _ _ hb1
  refine ⟨setCell_box hbox, ownsRow_setCell_below hown hsB _, fun e => by omega, ?_, ?_, ?_, ?_, ?_, ?_⟩
  · rw [List.range_succ, List.flatMap_append, h.cells]
    have e : ((List.range k).flatMap fun i => par vals (nm i) (g i)) = (List.range k).flatMap fun i => par vals (nm i) (if i = k then gn else g i) := by
      rw [List.flatMap_def, List.flatMap_def]
      have e2 : ∀ i ∈ List.range k, par vals (nm i) (g i) = par vals (nm i) (if i = k then gn else g i) := fun i hi => by rw [if_neg (by have := List.mem_range.1 hi; omega)]
      rw [List.map_congr_left e2]
    rw [e]; simp
  · intro hv i hi
    by_cases e : i = k
    · subst e
      simp only [if_true]
      rw [other _ (by omega), hgrow.block gn (by simp; omega) (fun e => by have := hvlt _ e.symm; omega), heap_alloc_old (h := hg2)]
      exact ht hv
    · simp only [if_neg e]
      rw [other _ (by have := h.lo i (by omega); omega), old _ (h.lt i (by omega)) (h.ne i (by omega))]
      exact h.text hv i (by omega)
  · intro i hi
    by_cases e : i = k
    · simp [e]; omega
    · simp [e]; exact h.lo i (by omega)
  · intro i hi
    by_cases e : i = k
    · simp [e, World.setCell]; omega
    · simp [e, World.setCell]; have := h.lt i (by omega); omega
  · intro i hi
    simp only [Value.ownBlock, ne_eq, Option.some.injEq]
    by_cases e : i = k
    · simp only [e, if_true]
      rcases hat with h1 | h1
      · have := hvlt _ h1; omega
      · omega
    · simp only [if_neg e]
      rcases hat with h1 | h1
      · intro h2; exact h.ne i (by omega) (by rw [h1, h2])
      · have := h.lt i (by omega); omega
  · intro i j hij hj
    have hi : i ≠ k := by omega
    by_cases e : j = k
    · simp only [if_neg hi, e, if_true]; have := h.lt i (by omega); omega
    · simp only [if_neg hi, if_neg e]; exact h.inj i j hij (by omega)

theorem bel_step {B : Nat} {w wr wA w1 : World} {o : Obj} {v u : Value} (hbel : Below w.heap.size w wr) (hb : Below wr.heap.size wr wA) (hv : ∀ b, v.ownBlock = some b → w.heap.size ≤ b)
    (hgrow : (wA.alloc o).grownBy w1 v.ownBlock) (hB : w.heap.size ≤ B) (hsz : w.heap.size + 1 ≤ wr.heap.size) : Below w.heap.size w (w1.setCell ⟨B, 0, none⟩ u) ∧ w.heap.size + 1 ≤ (w1.setCell ⟨B, 0, none⟩ u).heap.size := by
  have h1 : Below w.heap.size w wA := hbel.trans (hb.mono (by omega))
  have hs := hb.size
  have h2 : Below w.heap.size w w1 := (h1.alloc (by omega) o).grown hgrow (by simp; omega) hv
  refine ⟨h2.setCell (by exact hB) u, ?_⟩
  have := hgrow.size
  simp [World.setCell] at this ⊢
  omega

theorem below_undrew {w w' : World} (h : Below w.drew.heap.size w.drew w') : Below w.heap.size w w' := ⟨h.os, h.tape, h.output, h.size, h.block⟩

theorem sl_start (w : World) (vals : Bool) (nm : Nat → ByteArray) : SL (w.heap.size + 1) w.heap.size vals nm 0 (.slice none 0 0) [] (fun _ => 0) (w.alloc (.cells #[.slice none 0 0] 71)) :=
  ⟨heap_alloc_new w _, World.ownsRow_nil _ _ _ _, fun _ => rfl, rfl, by intro _ i hi; omega, by intro i hi; omega, by intro i hi; omega, by intro i hi; omega, by intro i j _ hj; omega⟩

theorem par_one (vals : Bool) (s : ByteArray) (g : Nat) : ∀ u ∈ par vals s g, u.oneCell' = true := by
  unfold par; cases vals <;> simp [Value.oneCell']
theorem par_len (vals : Bool) (s : ByteArray) (g : Nat) : (par vals s g).length = 4 := by
  unfold par; cases vals <;> rfl

/-- A call of a Go function as one step of a region that draws its order, by its contract. -/
theorem step_call {P : Program} {ops : Array Oper} {o : Oper} {a : Act} {w : World} {K : Act → World → Prop} {Q : Exit → Act → World → Prop} {E : Prop}
    {f : FuncId} {fn : Func} (hf : P.funcs[f]? = some fn) (hn : (fn.name == "runtime.NumGoroutine") = false) (hbd : fn.body.isNone = false) (hg : o.guard = none) (args : List Operand) (ats : Array TypeId) (ho : o.op = .call { callee := .value (.func f), args := args.toArray, argTypes := ats })
    (vs : List Value) (hvs : args.map a.eval = vs) (R : Ending → World → Prop) (hc : Calls P f vs.toArray w R) (h : ∀ e w', R e w' → ∃ v, e = .returned v ∧ K (a.put o.dst v) w') :
    if Region.wanted o (yielded ops a.tmps) = true then Oper.wp P o a w K Q else E := by
  have hw : Region.wanted o (yielded ops a.tmps) = true := by simp [Region.wanted, hg]
  rw [if_pos hw]
  unfold Oper.wp
  subst hvs
  have e : (execOp a.eval o).run P w = .ok (.enter f (args.map a.eval).toArray) w := by
    simp [execOp, ho, resolve, invoke, Act.eval, Result.andThen, Deferred.ofValue, callFunc, hf, -beq_iff_eq, hn, hbd, -Option.isNone_iff_eq_none]
  rw [e, Oper.upon_enter]
  refine hc.mono fun e w' hR => ?_
  obtain ⟨v, rfl, hk⟩ := h e w' hR
  exact hk

theorem cell_alloc {w : World} {a : Addr} {v : Value} (h : w.cell? a = some v) (o : Obj) : (w.alloc o).cell? a = some v := (Below.cell ((Below.refl _ w).alloc (Nat.le_refl _) o) (World.block_lt_of_cell? w a h)).trans h
theorem frozen_alloc {w : World} {a : Addr} {v : Value} (h : w.cell? a = some v) (o : Obj) : (w.alloc o).frozen? a = w.frozen? a := Below.frozen ((Below.refl _ w).alloc (Nat.le_refl _) o) (World.block_lt_of_cell? w a h)
theorem kept_call {w wA : World} {a : Addr} {v : Value} (h : w.cell? a = some v) (hf : w.frozen? a = false) (hb : Below w.heap.size w wA) :
    wA.cell? a = some v ∧ wA.frozen? a = false ∧ (∀ o, (wA.alloc o).cell? a = some v) ∧ (∀ o, (wA.alloc o).frozen? a = false) := by
  have h1 : wA.cell? a = some v := (hb.cell (World.block_lt_of_cell? w a h)).trans h
  have h2 : wA.frozen? a = false := (hb.frozen (World.block_lt_of_cell? w a h)).trans hf
  exact ⟨h1, h2, fun o => cell_alloc h1 o, fun o => (frozen_alloc h1 o).trans h2⟩
theorem grown_below {w w' : World} (h : Below w.heap.size w w') (row : Option Nat) : w.grownBy w' row := ⟨h.os, h.tape, h.output, h.size, fun k hk _ => h.block k hk⟩
theorem owns_below {w w' : World} {base e size n : Nat} {v : Value} {xs : List Value} (h : w.ownsRow base e size v n xs) (hb : Below w.heap.size w w') : w'.ownsRow base e size v n xs :=
  h.kept (grown_below hb none) (by cases v.ownBlock <;> simp)

set_option maxHeartbeats 1000000 in
theorem statistics_any (tb kb nb no n c : Nat) (ao : Option Addr) (vals : Bool) (nm : Nat → ByteArray) (w : World)
    (h1 : w.cell? ⟨tb, 2, none⟩ = some (.pointer (some ⟨kb, 0, none⟩))) (h2 : w.cell? ⟨kb, 1, none⟩ = some (.slice ao n c))
    (hn : n ≤ 1048576) (ha : Hid (0 < n → ao = some ⟨nb, no, none⟩ ∧ nb < w.heap.size ∧ ∀ i, i < n → w.cell? ⟨nb, no + i, none⟩ = some (.string (nm i)))) :
    Calls Yba.prog 9 #[.pointer (some ⟨tb, 0, none⟩), .bool vals] w fun e w' => e = .returned (.pointer (some ⟨w.heap.size, 0, none⟩)) ∧ Below w.heap.size w w' ∧ ∃ v xs g, SL (w.heap.size + 1) w.heap.size vals nm n v xs g w' := by
  have l1 := World.block_lt_of_cell? w _ h1
  have l2 := World.block_lt_of_cell? w _ h2
  go_enter Yba.func9, Yba.ntmps9
  go_wp2
  go_loopw [18] (fun i wr => ∃ k : Nat, k ≤ n ∧ i = .int .i64 k ∧ Below w.heap.size w wr ∧ w.heap.size + 1 ≤ wr.heap.size ∧ Hid (∃ v xs g, SL (w.heap.size + 1) w.heap.size vals nm k v xs g wr)) (fun i _ => n - (intOf i).toNat)
  case atStart => exact ⟨0, Nat.zero_le _, rfl, (Below.refl _ _).alloc (Nat.le_refl _) _, by simp, _, _, _, sl_start w vals nm⟩
  case round =>
    obtain ⟨k, hk, rfl, hbel, hsz, hsl⟩ := hrel
    by_cases hlt : k < n
    · obtain ⟨rfl, hnb, hcs⟩ := ha.out (by omega)
      have hc1 : wr.cell? ⟨nb, no + k, none⟩ = some (.string (nm k)) := (hbel.cell (by exact hnb)).trans (hcs k hlt)
      obtain ⟨v, xs, g, hSL⟩ := hsl.out
      have hcv : wr.cell? ⟨w.heap.size, 0, none⟩ = some v := by rw [cell_of_row _ _ _ _ _ _ hSL.box]; rfl
      have hfv : wr.frozen? ⟨w.heap.size, 0, none⟩ = false := frozen_of_row _ _ _ _ _ hSL.box
      clear hcs
      have hvB : v.ownBlock ≠ some w.heap.size := fun e => by have := (hSL.own.lt _ e).1; omega
      have HSL : Hid (SL (w.heap.size + 1) w.heap.size vals nm k v xs g wr) := hSL
      clear hSL hsl
      obtain ⟨i0, hi, hz0, hz1, hz2⟩ := info_parts info75
      have Hi : Hid (_ ∧ _ ∧ _ ∧ _) := ⟨hi, hz0, hz1, hz2⟩
      have HB : Hid (v.ownBlock ≠ some w.heap.size) := hvB
      clear hi hz0 hz1 hz2 hvB
      go_wp2
      have hst := stat_any (nm k) vals wr.drew
      have Hst : Hid (Calls _ _ _ _ _) := hst
      clear hst
      cases vals
      · go_region_law
          (first
            | (refine step_call Yba.func10 nm10 bd10 ?_ [.tmp 27, .tmp 28] #[9, 4] ?_ [.string (nm k), .bool false] ?_ _ Hst.out ?_; rfl; rfl; rfl; rintro e wA ⟨gn, rfl, hb, hg1, hg2, ht⟩; refine ⟨_, rfl, ?_⟩; obtain ⟨kc, kf, kc2, kf2⟩ := kept_call (w := wr.drew) hcv hfv hb; simp only [par])
            | (refine step_append_lies _ (by rfl) (.tmp 26) (.tmp 30) 69 (by rfl) (w.heap.size + 1) 75 i0 (.agg #[.string ⟨#[]⟩, .int .u8 0, .int .u8 0, .slice none 0 0]) 4 48 Yba.underlying69 Hi.out.1 Hi.out.2.1 Hi.out.2.2.1 Hi.out.2.2.2 (by rfl) (by decide) v k xs (by rfl) ((owns_below (w := wr.drew) HSL.out.own hb).alloc _) ⟨wA.heap.size, 0, none⟩ 1 1 [.string (nm k), .int .u8 0, .int .u8 0, .slice none 0 0] (by rfl) (by rfl) (World.news_of_block (heap_alloc_new wA _)) (par_one false (nm k) gn) (by decide) (by unfold maxLen; omega) (by omega) (by have := hb.size; simp at this ⊢; omega) (wA.heap.size + 1) (by simp) ?_; intro gB cap w1 hown hgrow hat hlt1; have kc3 : w1.cell? ⟨w.heap.size, 0, none⟩ = some v := hgrow.cell (kc2 _) (fun e => HB.out e.symm); have kf3 : w1.frozen? ⟨w.heap.size, 0, none⟩ = false := (hgrow.frozen_far _ (World.block_lt_of_cell? _ _ (kc2 _)) (fun e => HB.out e.symm)).trans (kf2 _)))
        all_goals
          have R := sl_step HSL.out (by omega) hsz (below_undrew hb) hg1 hg2 ht hown hgrow hat
          have R2 := bel_step (u := .slice (some ⟨gB, 0, none⟩) (k + 1) cap) hbel (below_undrew hb) (fun b e => by have := (HSL.out.own.lt b e).1; omega) hgrow (Nat.le_refl _) hsz
          clear hown hgrow hat kc kf kc2 kf2 kc3 kf3 Hst HSL hcv hfv hb ht hg1 hg2
          go_wp2
          go_roundw
          case rel => exact ⟨k + 1, by omega, by go_num, R2.1, R2.2, _, _, _, R⟩
          case measure => simp [intOf]; omega
      · go_region_law
          (first
            | (refine step_call Yba.func10 nm10 bd10 ?_ [.tmp 27, .tmp 28] #[9, 4] ?_ [.string (nm k), .bool true] ?_ _ Hst.out ?_; rfl; rfl; rfl; rintro e wA ⟨gn, rfl, hb, hg1, hg2, ht⟩; refine ⟨_, rfl, ?_⟩; obtain ⟨kc, kf, kc2, kf2⟩ := kept_call (w := wr.drew) hcv hfv hb; simp only [par])
            | (refine step_append_lies _ (by rfl) (.tmp 26) (.tmp 30) 69 (by rfl) (w.heap.size + 1) 75 i0 (.agg #[.string ⟨#[]⟩, .int .u8 0, .int .u8 0, .slice none 0 0]) 4 48 Yba.underlying69 Hi.out.1 Hi.out.2.1 Hi.out.2.2.1 Hi.out.2.2.2 (by rfl) (by decide) v k xs (by rfl) ((owns_below (w := wr.drew) HSL.out.own hb).alloc _) ⟨wA.heap.size, 0, none⟩ 1 1 [.string (nm k), .int .u8 1, .int .u8 0, .slice (some ⟨gn, 0, none⟩) 1 1] (by rfl) (by rfl) (World.news_of_block (heap_alloc_new wA _)) (par_one true (nm k) gn) (by decide) (by unfold maxLen; omega) (by omega) (by have := hb.size; simp at this ⊢; omega) (wA.heap.size + 1) (by simp) ?_; intro gB cap w1 hown hgrow hat hlt1; have kc3 : w1.cell? ⟨w.heap.size, 0, none⟩ = some v := hgrow.cell (kc2 _) (fun e => HB.out e.symm); have kf3 : w1.frozen? ⟨w.heap.size, 0, none⟩ = false := (hgrow.frozen_far _ (World.block_lt_of_cell? _ _ (kc2 _)) (fun e => HB.out e.symm)).trans (kf2 _)))
        all_goals
          have R := sl_step HSL.out (by omega) hsz (below_undrew hb) hg1 hg2 ht hown hgrow hat
          have R2 := bel_step (u := .slice (some ⟨gB, 0, none⟩) (k + 1) cap) hbel (below_undrew hb) (fun b e => by have := (HSL.out.own.lt b e).1; omega) hgrow (Nat.le_refl _) hsz
          clear hown hgrow hat kc kf kc2 kf2 kc3 kf3 Hst HSL hcv hfv hb ht hg1 hg2
          go_wp2
          go_roundw
          case rel => exact ⟨k + 1, by omega, by go_num, R2.1, R2.2, _, _, _, R⟩
          case measure => simp [intOf]; omega
    · obtain rfl : k = n := by omega
      go_wp2
      go_ret
      exact ⟨rfl, hbel, hsl.out⟩
end Go.Proofs.Ybulkdmwm
