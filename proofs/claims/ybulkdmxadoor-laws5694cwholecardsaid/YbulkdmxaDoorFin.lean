import Derived.Test.YbulkdmxaDoorWrite
import Derived.LaidEqlPtr
import Derived.Conc.LoneSelectN
namespace Go.Proofs.YbulkdmxaDoor.Next
open Go.ChangeShapes Go.WideShapes Go.ChangeAt Go.RowKit Go.Conc
set_option linter.unusedSimpArgs false

/-- What is known of a slice of ints that came in. -/
def I64 (w : World) (ao : Option Addr) (n b o : Nat) (x : Nat → Int) : Prop := 0 < n → ao = some ⟨b, o, none⟩ ∧ b < w.heap.size ∧ ∀ i, i < n → w.cell? ⟨b, o + i, none⟩ = some (.int .i64 (x i))
/-- A block of n refusals. -/
def RBlk (w : World) (b n : Nat) : Prop := ∃ cur : Array Value, w.heap[b]? = some (.cells cur 27 (0, 0)) ∧ cur.size = n * 3
theorem RBlk.cells {w : World} {b n : Nat} (h : RBlk w b n) {j : Nat} (hj : j < n * 3) : ∃ v, w.cell? ⟨b, j, none⟩ = some v := by
  obtain ⟨cur, hb, hs⟩ := h; rw [cell_of_row _ _ _ _ _ _ hb]; exact ⟨cur[j], by simp⟩
theorem RBlk.fr {w : World} {b n : Nat} (h : RBlk w b n) (j : Nat) : w.frozen? ⟨b, j, none⟩ = false := by
  obtain ⟨cur, hb, _⟩ := h; exact frozen_of_row _ _ _ _ _ hb
theorem RBlk.set {w : World} {b n : Nat} (h : RBlk w b n) (j : Nat) (v : Value) : RBlk (w.setCell ⟨b, j, none⟩ v) b n := by
  obtain ⟨cur, hb, hs⟩ := h
  exact ⟨_, heap_setCell_same w b j cur 27 v hb, by simpa using hs⟩
theorem RBlk.lt {w : World} {b n : Nat} (h : RBlk w b n) : b < w.heap.size := by obtain ⟨cur, hb, _⟩ := h; exact (Array.getElem?_eq_some_iff.1 hb).1
theorem RBlk.same {w w' : World} {b n : Nat} (h : RBlk w b n) (e : w'.heap[b]? = w.heap[b]?) : RBlk w' b n := by obtain ⟨cur, hb, hs⟩ := h; exact ⟨cur, e.trans hb, hs⟩
theorem rblk_made {w1 : World} {base n B : Nat} {xs : List Value} (h : w1.ownsRow base 27 3 (.slice (some ⟨B, 0, none⟩) n n) n xs) : RBlk w1 B n := by
  rcases h.2 with ⟨h', _⟩ | ⟨g, cap, cur, h', _, hgg, _, _, hcs, _⟩
  · simp at h'
  · simp only [Value.slice.injEq, Option.some.injEq, Addr.mk.injEq, and_true, true_and] at h'
    obtain ⟨rfl, rfl⟩ := h'
    exact ⟨cur, hgg, hcs⟩
theorem grown_below {w w1 : World} (hg : w.grownBy w1 none) : Below w.heap.size w w1 := ⟨hg.os, hg.tape, hg.output, hg.size, fun k hk => hg.block k hk (by simp)⟩
theorem chan_bytes : ∃ i, Ybad.prog.info? 28 = some i ∧ i.bytes = 8 := by
  have h : (Ybad.prog.info? 28).map (·.bytes) = some 8 := by kernel_rfl
  obtain ⟨i, hi, hb⟩ := Option.map_eq_some_iff.1 h
  exact ⟨i, hi, hb⟩
theorem mk2 (w : World) : (Instr.makeChan 40 (.int .i64 2)).run Ybad.prog w = .ok (.chan (some w.heap.size)) (w.alloc (.chan 2 #[] false 0 0 false)) := by
  obtain ⟨i, hi, hb⟩ := chan_bytes
  simpa using run_makeChan (P := Ybad.prog) (w := w) Ybad.underlying40 hi .i64 2 (by omega) (by rw [hb]; omega)

theorem write_any {w W1 : World} {a0 : Option Addr} {n0 c0 b0 o0 : Nat} {z : Nat → Nat} {rv : Value} {rb : Int} {la : Bool} (h0 : U8 w a0 n0 b0 o0 z) (hn : n0 ≤ 1048576) (hB : Below w.heap.size w W1) :
    Calls Ybad.prog 4 #[.pointer (some ⟨W1.heap.size, 0, none⟩), .slice a0 n0 c0] (W1.alloc (.cells (partc (.slice none 0 0) 0 rv rb la) 34)) fun e w' => e = .returned (.tuple #[.int .i64 n0, .nilIface]) ∧ Wr (W1.alloc (.cells (partc (.slice none 0 0) 0 rv rb la) 34)) w' W1.heap.size rv rb la := by
  have hp : (W1.alloc (.cells (partc (.slice none 0 0) 0 rv rb la) 34)).heap[W1.heap.size]? = some (.cells (partc (.slice none 0 0) 0 rv rb la) 34 (0, 0)) := heap_alloc_new W1 _
  by_cases hz : n0 = 0
  · subst hz
    exact write_nil a0 W1.heap.size c0 rv rb la _ hp
  · obtain ⟨rfl, hl, hc⟩ := h0 (by omega)
    have hs := hB.size
    refine write_some W1.heap.size n0 c0 _ z rv rb la _ hp hn (by simp) (by show b0 ≠ _; omega) (fun j v hv => ?_)
    obtain ⟨hj, rfl⟩ := bts_some _ _ _ _ hv
    rw [Addr.add_lit, World.cell?_alloc_lt (h := by show b0 < _; omega), hB.cell (by exact hl)]
    exact hc j hj

/-- The batch, its two channels just made. -/
structure Bt (W wc : World) (BB c5 c6 : Nat) : Prop where
  bel : Below W.heap.size W wc
  e5 : wc.cell? ⟨BB, 5, none⟩ = some (.chan (some c5))
  e6 : wc.cell? ⟨BB, 6, none⟩ = some (.chan (some c6))
  h5 : wc.heap[c5]? = some (.chan 2 #[] false 0 0 false)
  h6 : wc.heap[c6]? = some (.chan 2 #[] false 0 0 false)
  ne : c5 ≠ c6 ∧ BB ≠ c5 ∧ BB ≠ c6 ∧ W.heap.size ≤ c5 ∧ W.heap.size ≤ c6 ∧ W.heap.size ≤ BB

theorem bt_mk {W : World} {cs : Array Value} {T : TypeId} {c5 c6 BB : Nat} (hBB : BB = W.heap.size + 1 + 1) (hc : (c5 = W.heap.size ∧ c6 = W.heap.size + 1) ∨ (c6 = W.heap.size ∧ c5 = W.heap.size + 1)) (h5 : cs[5]? = some (.chan (some c5))) (h6 : cs[6]? = some (.chan (some c6))) (wc : World)
    (hw : wc.heap = ((((W.alloc (.chan 2 #[] false 0 0 false)).alloc (.chan 2 #[] false 0 0 false))).alloc (.cells cs T)).heap) (ho : wc.os = W.os) (ht : wc.tape = W.tape) (hp : wc.output = W.output) : Bt W wc BB c5 c6 := by
  subst hBB
  have n3 : wc.heap[W.heap.size + 1 + 1]? = some (.cells cs T (0, 0)) := by
    rw [hw]
    have := heap_alloc_new ((W.alloc (.chan 2 #[] false 0 0 false)).alloc (.chan 2 #[] false 0 0 false)) (.cells cs T)
    simpa using this
  have n1 : wc.heap[W.heap.size]? = some (.chan 2 #[] false 0 0 false) := by
    rw [hw, heap_alloc_old (h := by simp; omega), heap_alloc_old (h := by simp)]; exact heap_alloc_new W _
  have n2 : wc.heap[W.heap.size + 1]? = some (.chan 2 #[] false 0 0 false) := by
    rw [hw, heap_alloc_old (h := by simp)]
    have := heap_alloc_new (W.alloc (.chan 2 #[] false 0 0 false)) (.chan 2 #[] false 0 0 false)
    simpa using this
  refine ⟨⟨ho, ht, hp, by rw [hw]; simp; omega, fun k hk => ?_⟩, ?_, ?_, ?_, ?_, ?_⟩
  · rw [hw, heap_alloc_old (h := by simp; omega), heap_alloc_old (h := by simp; omega), heap_alloc_old (h := hk)]
  · rw [cell_of_row _ _ _ _ _ _ n3]; exact h5
  · rw [cell_of_row _ _ _ _ _ _ n3]; exact h6
  · rcases hc with ⟨rfl, rfl⟩ | ⟨rfl, rfl⟩
    · exact n1
    · exact n2
  · rcases hc with ⟨rfl, rfl⟩ | ⟨rfl, rfl⟩
    · exact n2
    · exact n1
  · rcases hc with ⟨rfl, rfl⟩ | ⟨rfl, rfl⟩ <;> exact ⟨by omega, by omega, by omega, by omega, by omega, by omega⟩

theorem Fr.cell {may : Nat → Prop} {w w' : World} (h : Fr may w w') {p : Addr} {v : Value} (hc : w.cell? p = some v) (hp : ¬ may p.block) : w'.cell? p = some v :=
  (World.cell?_of_block (w := w) (h.block p.block (World.block_lt_of_cell? _ _ hc) hp)).trans hc
theorem Fr.at {may : Nat → Prop} {w w' : World} (h : Fr may w w') {k : Nat} {o : Obj} (hc : w.heap[k]? = some o) (hp : ¬ may k) : w'.heap[k]? = some o := (h.block k (Array.getElem?_eq_some_iff.1 hc).1 hp).trans hc

/-- What stands behind nextPart. -/
structure Fin (w W : World) (PB RB P2 BB c5 c6 n1 bc s r : Nat) (bo : Option Addr) : Prop where
  bel : Below w.heap.size w W
  part : W.heap[PB]? = some (.cells (partc (.slice bo 0 bc) 0 (.slice (some ⟨RB, 0, none⟩) 0 n1) 0 false) 34 (0, 0))
  row : W.heap[RB]? = some (.cells (zrow n1) 27 (0, 0))
  part2 : W.heap[P2]? = some (.cells (partc (.slice none 0 0) 0 (.slice none 0 0) 0 false) 34 (0, 0))
  e5 : W.cell? ⟨BB, 5, none⟩ = some (.chan (some c5))
  e6 : W.cell? ⟨BB, 6, none⟩ = some (.chan (some c6))
  h5 : W.heap[c5]? = some (.chan 2 #[] false 0 0 false)
  h6 : W.heap[c6]? = some (.chan 2 #[.pointer (some ⟨P2, 0, none⟩)] false s r false)

theorem ahead {w W1 W2 wc Wb : World} {BB c5 c6 n1 : Nat} {v rv : Value} {lr rb : Int} {la : Bool} (hB : Below w.heap.size w W1) (hW : w.heap.size < W1.heap.size) (hs : W1.heap.size < W2.heap.size) (hB2 : Below W1.heap.size W1 W2) (hV2 : RBlk W2 w.heap.size n1) (hP2 : W2.heap[W1.heap.size]? = some (.cells (partc v lr rv rb la) 34 (0, 0)))
    (hBt : Bt (W2.alloc (.cells (partc (.slice none 0 0) 0 (.slice none 0 0) 0 false) 34)) wc BB c5 c6) (hF : Fr (fun k => k = c6) wc Wb) :
    Below w.heap.size w Wb ∧ Wb.heap[W1.heap.size]? = some (.cells (partc v lr rv rb la) 34 (0, 0)) ∧ RBlk Wb w.heap.size n1 ∧ Wb.heap[W2.heap.size]? = some (.cells (partc (.slice none 0 0) 0 (.slice none 0 0) 0 false) 34 (0, 0)) ∧
      Wb.cell? ⟨BB, 5, none⟩ = some (.chan (some c5)) ∧ Wb.cell? ⟨BB, 6, none⟩ = some (.chan (some c6)) ∧ Wb.heap[c5]? = some (.chan 2 #[] false 0 0 false) ∧
      (W1.heap.size ≠ w.heap.size ∧ W1.heap.size ≠ c6 ∧ w.heap.size ≠ c6) ∧ W1.heap.size < W2.heap.size ∧ W2.heap.size < BB ∧ W2.heap.size < c5 ∧ W2.heap.size < c6 := by
  obtain ⟨n1', n2, n3, n4, n5, n6⟩ := hBt.ne
  simp at n4 n5 n6
  have s3 : (W2.alloc (.cells (partc (.slice none 0 0) 0 (.slice none 0 0) 0 false) 34)).heap.size = W2.heap.size + 1 := by simp
  have up : ∀ k, k < W2.heap.size → Wb.heap[k]? = W2.heap[k]? := fun k hk => by
    rw [hF.block k (by have := hBt.bel.size; omega) (by omega), hBt.bel.block k (by omega), heap_alloc_old (h := hk)]
  have p2 : Wb.heap[W2.heap.size]? = some (.cells (partc (.slice none 0 0) 0 (.slice none 0 0) 0 false) 34 (0, 0)) := by
    rw [hF.block _ (by have := hBt.bel.size; omega) (by omega), hBt.bel.block _ (by omega)]; exact heap_alloc_new W2 _
  refine ⟨⟨?_, ?_, ?_, ?_, fun k hk => ?_⟩, (up _ hs).trans hP2, hV2.same (up _ (by omega)), p2, hF.cell hBt.e5 (by exact n3), hF.cell hBt.e6 (by exact n3), hF.at hBt.h5 (by exact n1'), ⟨by omega, by omega, by omega⟩, hs, by omega, by omega, by omega⟩
  · exact hF.os.trans (hBt.bel.os.trans (hB2.os.trans hB.os))
  · exact hF.tape.trans (hBt.bel.tape.trans (hB2.tape.trans hB.tape))
  · exact hF.output.trans (hBt.bel.output.trans (hB2.output.trans hB.output))
  · have := hF.size; have := hBt.bel.size; omega
  · rw [up k (by omega), hB2.block k (by omega), hB.block k hk]

theorem fin_mk {w Wb W9 : World} {PB P2 BB c5 c6 n1 bc s r : Nat} {bo : Option Addr} (hB : Below w.heap.size w Wb) (hp2 : Wb.heap[P2]? = some (.cells (partc (.slice none 0 0) 0 (.slice none 0 0) 0 false) 34 (0, 0))) (e5 : Wb.cell? ⟨BB, 5, none⟩ = some (.chan (some c5))) (e6 : Wb.cell? ⟨BB, 6, none⟩ = some (.chan (some c6)))
    (h5 : Wb.heap[c5]? = some (.chan 2 #[] false 0 0 false)) (hn : w.heap.size < PB ∧ PB < P2 ∧ P2 < BB ∧ P2 < c5 ∧ P2 < c6 ∧ c5 ≠ c6 ∧ BB ≠ c6) (h : Nx Wb W9 c6 PB w.heap.size n1 bc s r bo (.pointer (some ⟨P2, 0, none⟩))) :
    Fin w W9 PB w.heap.size P2 BB c5 c6 n1 bc s (r + 1) bo := by
  refine ⟨⟨h.fr.os.trans hB.os, h.fr.tape.trans hB.tape, h.fr.output.trans hB.output, Nat.le_trans hB.size h.fr.size, fun k hk => ?_⟩, h.part, h.row, h.fr.at hp2 (by omega), h.fr.cell e5 (by show ¬ (BB = _ ∨ BB = _ ∨ BB = _); omega), h.fr.cell e6 (by show ¬ (BB = _ ∨ BB = _ ∨ BB = _); omega), h.fr.at h5 (by omega), h.chan⟩
  rw [h.fr.block k (Nat.lt_of_lt_of_le hk hB.size) (by omega), hB.block k hk]

theorem neq_same (w : World) (a : Addr) : (binOp .neq 28 (.pointer (some a)) (.pointer (some a))).run Ybad.prog w = .ok (.bool false) w := by
  obtain ⟨j, hj, _⟩ : ∃ j, Ybad.prog.info? 34 = some j ∧ j.size = 6 := by
    have h : (Ybad.prog.info? 34).map (·.size) = some 6 := by kernel_rfl
    obtain ⟨i, hi, hb⟩ := Option.map_eq_some_iff.1 h
    exact ⟨i, hi, hb⟩
  have h := run_eql_ptr_same (P := Ybad.prog) w a Ybad.underlying28 hj
  simp only [binOp] at h ⊢
  simp only [go_sem, Sem.run_bind] at h ⊢
  revert h
  cases hr : Sem.run Ybad.prog (Op.equal 28 (.pointer (some a)) (.pointer (some a))) w with
  | ok b w' => simp
  | halt h w' => intro h; simp at h

theorem fr_below {w W9 Wz : World} {m c6 : Nat} (h : Below w.heap.size w W9) (hF : Fr (fun k => k = c6) (W9.drewN m) Wz) (hc : w.heap.size ≤ c6) : Below w.heap.size w Wz :=
  ⟨hF.os.trans h.os, hF.tape.trans h.tape, hF.output.trans h.output, Nat.le_trans h.size hF.size, fun k hk => (hF.block k (Nat.lt_of_lt_of_le hk h.size) (by omega)).trans (h.block k hk)⟩
theorem zrow_cells {w : World} {RB n q : Nat} (h : w.heap[RB]? = some (.cells (zrow n) 27 (0, 0))) (hq : q < n) :
    w.cell? ⟨RB, q * 3, none⟩ = some (.int .i64 0) ∧ w.cell? ⟨RB, q * 3 + 1, none⟩ = some (.int .i64 0) ∧ w.cell? ⟨RB, q * 3 + 2, none⟩ = some (.slice none 0 0) := by
  simp only [cell_of_row _ _ _ _ _ _ h]
  rw [zrow_get n (q * 3) (by omega), zrow_get n (q * 3 + 1) (by omega), zrow_get n (q * 3 + 2) (by omega), show q * 3 % 3 = 0 by omega, show (q * 3 + 1) % 3 = 1 by omega, show (q * 3 + 2) % 3 = 2 by omega]
  exact ⟨rfl, rfl, rfl⟩
end Go.Proofs.YbulkdmxaDoor.Next
