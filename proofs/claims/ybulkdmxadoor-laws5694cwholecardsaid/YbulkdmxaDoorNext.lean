import Derived.Test.YbulkdmxaDoorRows
import Derived.WalkKit
import Derived.ProofKit
import Derived.Below
import Derived.WalkSpells
import Derived.WalkLawsBesides
import Derived.Deep.QuietTactic
import Derived.BigQuiet
import Derived.Laws.CopyRow
import Derived.IntWalk
import Derived.Conc.LoneCalls
import Derived.Deep.DeepCutAuto
namespace Go.Proofs.YbulkdmxaDoor.Next
open Go.ChangeShapes Go.WideShapes Go.ChangeAt Go.RowKit Go.Conc
set_option linter.unusedSimpArgs false

/-- What is left of a region, from here on: the walk's own meaning, as 'wp_ops' has it. -/
def WPI (P : Program) (ops : Array Oper) (Q : Exit → Act → World → Prop) (l : List Nat) (a : Act) (w : World) : Prop :=
  ∀ (b : Frame) (k : List Item) (cs : List Frame), ∃ e a' w', Q e a' w' ∧ Arrives P (lone (b.at a (.inRegion ops l :: k)) cs w) b k cs e a' w'
section
variable {P : Program} {ops : Array Oper} {Q : Exit → Act → World → Prop} {a : Act} {w w₁ : World} {i : Nat} {rest : List Nat} {o : Oper}
theorem wpi_nil (h : Q .normal a w) : WPI P ops Q [] a w := fun _ _ _ => ⟨.normal, a, w, h, .one step_region_end⟩
theorem wpi_fin (b : Frame) (k : List Item) (ho : ops[i]? = some o) (v : Value) : (b.at a (.inRegion ops (i :: rest) :: k)).finish v = b.at (a.put o.dst v) (.inRegion ops rest :: k) := by
  rw [Frame.finish_at, ho]; rfl
theorem wpi_value (ho : ops[i]? = some o) (hw : Region.wanted o (yielded ops a.tmps) = true) (v : Value) (hr : (execOp a.eval o).run P w = .ok (.value v) w) (h : WPI P ops Q rest (a.put o.dst v) w) : WPI P ops Q (i :: rest) a w := fun b k cs => by
  obtain ⟨e, a', w'', hq, harr⟩ := h b k cs
  refine ⟨e, a', w'', hq, .of_steps (.one (step_lone_go ?_)) harr⟩
  rw [stepG_op ho hw, ← wpi_fin b k ho]; simp [stepG.apply, hr]
theorem comm_any {b : Frame} {k : List Item} {cs : List Frame} {cases : Array CommCase} {blocking : Bool} {shape : CommShape} (ho : ops[i]? = some o) (hw : Region.wanted o (yielded ops a.tmps) = true) (hr : (execOp a.eval o).run P w = .ok (.comm cases blocking shape) w₁) :
    ∃ es, stepG P true (G (b.at a (.inRegion ops (i :: rest) :: k)) cs) w = .comm (G (b.at a (.inRegion ops (i :: rest) :: k)) cs) cases blocking shape w₁ es := by
  have hg := stepG_op (P := P) (b := b) (k := k) (cs := cs) (w := w) (rest := rest) ho hw
  simp only [G] at *
  rw [hg]
  simp only [stepG.apply, Sem.runT_eq, hr, if_true, GStep.after]
  exact ⟨_, rfl⟩
theorem wpi_send (ho : ops[i]? = some o) (hw : Region.wanted o (yielded ops a.tmps) = true) (x y : Operand) (hop : o.op = .send x y) (c cap : Nat) (buf : Array Value) (s r : Nat) (v : Value) (hx : a.eval x = .chan (some c)) (hy : a.eval y = v)
    (hc : w.heap[c]? = some (.chan cap buf false s r false)) (hroom : buf.size < cap) (h : WPI P ops Q rest (a.put o.dst undef) (w.setChan c cap (buf.push v) false (s + 1) r false)) : WPI P ops Q (i :: rest) a w := fun b k cs => by
  obtain ⟨e, a', w'', hq, harr⟩ := h b k cs
  refine ⟨e, a', w'', hq, .of_steps (.one ?_) harr⟩
  have hr : (execOp a.eval o).run P w = .ok (.comm #[scase c v (.tuple #[])] true .send) w := by simp [execOp, hop, scase, hx, hy]
  obtain ⟨es, hg⟩ := comm_any (b := b) (k := k) (cs := cs) (rest := rest) ho hw hr
  have := step_lone_send_room hg hc hroom
  rw [wpi_fin b k ho] at this
  exact this
theorem wpi_recv (ho : ops[i]? = some o) (hw : Region.wanted o (yielded ops a.tmps) = true) (t : TypeId) (x : Operand) (hop : o.op = .recv t x false) (dir : ChanDir) (el : TypeId) (ht : P.underlying t = some (.chan dir el)) (z : Value) (hz : (zeroValue el).run P w = .ok z w) (c cap : Nat) (buf : Array Value) (s r : Nat) (hx : a.eval x = .chan (some c))
    (hc : w.heap[c]? = some (.chan cap buf false s r false)) (hsome : 0 < buf.size) (h : WPI P ops Q rest (a.put o.dst (buf.getD 0 undef)) (w.setChan c cap (buf.extract 1 buf.size) false s (r + 1) false)) : WPI P ops Q (i :: rest) a w := fun b k cs => by
  obtain ⟨e, a', w'', hq, harr⟩ := h b k cs
  refine ⟨e, a', w'', hq, .of_steps (.one ?_) harr⟩
  have hr : (execOp a.eval o).run P w = .ok (.comm #[rcase c z] true (.recv false)) w := by simp [execOp, hop, rcase, hx, run_underlying ht, hz]
  obtain ⟨es, hg⟩ := comm_any (b := b) (k := k) (cs := cs) (rest := rest) ho hw hr
  have := step_lone_recv_buf false hg hc hsome
  rw [wpi_fin b k ho] at this
  exact this
theorem wpi_region {id : Nat} (l : List Nat) (hl : List.range ops.size = l) (h : WPI P ops Q l a w) : (Code.region id ops false).wp P Q a w := fun b k cs => by
  obtain ⟨e, a', w'', hq, harr⟩ := h b k cs
  subst hl
  exact ⟨e, a', w'', hq, .of_steps (.one step_region) harr⟩
end

def partc (bo : Value) (lr : Int) (rv : Value) (rb : Int) (la : Bool) : Array Value := #[bo, .int .i64 0, .int .i8 lr, rv, .int .i64 rb, .bool la]

/-- What was there stands, but the blocks that 'may' names. -/
structure Fr (may : Nat → Prop) (w w' : World) : Prop where
  os : w'.os = w.os
  tape : w'.tape = w.tape
  output : w'.output = w.output
  size : w.heap.size ≤ w'.heap.size
  block : ∀ k, k < w.heap.size → ¬ may k → w'.heap[k]? = w.heap[k]?
theorem Fr.refl (may : Nat → Prop) (w : World) : Fr may w w := ⟨rfl, rfl, rfl, Nat.le_refl _, fun _ _ _ => rfl⟩
theorem Fr.trans {may : Nat → Prop} {a b c : World} (h : Fr may a b) (k : Fr may b c) : Fr may a c :=
  ⟨k.os.trans h.os, k.tape.trans h.tape, k.output.trans h.output, Nat.le_trans h.size k.size, fun j hj hm => (k.block j (Nat.lt_of_lt_of_le hj h.size) hm).trans (h.block j hj hm)⟩
theorem Fr.set {may : Nat → Prop} {a b : World} (h : Fr may a b) {g : Nat} (hg : may g) (o : Nat) (v : Value) : Fr may a (b.setCell ⟨g, o, none⟩ v) :=
  h.trans ⟨rfl, rfl, rfl, by simp [World.setCell], fun j _ hm => heap_setCell_other _ _ _ _ (fun e => hm (e ▸ hg))⟩
theorem Fr.chan {may : Nat → Prop} {a b : World} (h : Fr may a b) {c : Nat} (hg : may c) (cap : Nat) (buf : Array Value) (cl : Bool) (s r : Nat) (tm : Bool) : Fr may a (b.setChan c cap buf cl s r tm) :=
  h.trans ⟨rfl, rfl, rfl, by simp [World.setChan], fun j _ hm => by have hne : c ≠ j := fun e => hm (e ▸ hg); simp only [World.setChan]; rw [Array.getElem?_setIfInBounds_ne hne]⟩
theorem Fr.row {may : Nat → Prop} {a b : World} (h : Fr may a b) {g : Nat} (hg : may g) (cs : Array Value) : Fr may a (b.setRow g cs) :=
  h.trans ⟨rfl, rfl, rfl, by simp [World.setRow], fun j _ hm => setRow_other b g j cs (fun e => hm (e ▸ hg))⟩

theorem part_0 {w : World} {PB : Nat} {bo rv : Value} {lr rb : Int} {la : Bool} (h : w.heap[PB]? = some (.cells (partc bo lr rv rb la) 34 (0, 0))) :
    w.cell? ⟨PB, 0, none⟩ = some bo ∧ w.cell? ⟨PB, 1, none⟩ = some (.int .i64 0) ∧ w.cell? ⟨PB, 2, none⟩ = some (.int .i8 lr) ∧ w.cell? ⟨PB, 3, none⟩ = some rv ∧ w.cell? ⟨PB, 4, none⟩ = some (.int .i64 rb) ∧ w.cell? ⟨PB, 5, none⟩ = some (.bool la) := by
  simp only [cell_of_row _ _ _ _ _ _ h]
  exact ⟨rfl, rfl, rfl, rfl, rfl, rfl⟩
theorem part_set {w : World} {PB : Nat} {cs : Array Value} (h : w.heap[PB]? = some (.cells cs 34 (0, 0))) (o : Nat) (v : Value) : (w.setCell ⟨PB, o, none⟩ v).heap[PB]? = some (.cells (cs.setIfInBounds o v) 34 (0, 0)) := heap_setCell_same w PB o cs 34 v h

set_option maxRecDepth 100000 in
set_option maxHeartbeats 1000000 in
theorem reset_any (PB : Nat) (bo : Option Addr) (bl bc : Nat) (hbo : bo = none → bl = 0 ∧ bc = 0) (lr rb : Int) (rv : Value) (la : Bool) (w : World) (hp : Hid (w.heap[PB]? = some (.cells (partc (.slice bo bl bc) lr rv rb la) 34 (0, 0)))) :
    Calls Ybad.prog 9 #[.pointer (some ⟨PB, 0, none⟩)] w fun e w' => e = .returned (.tuple #[]) ∧ w'.heap[PB]? = some (.cells (partc (.slice bo 0 bc) 0 rv rb la) 34 (0, 0)) ∧ Fr (fun k => k = PB) w w' := by
  obtain ⟨c0, c1, c2, _, _, _⟩ := part_0 hp.out
  have f0 : w.frozen? ⟨PB, 0, none⟩ = false := frozen_of_row _ _ _ _ _ hp.out
  have f1 : w.frozen? ⟨PB, 1, none⟩ = false := frozen_of_row _ _ _ _ _ hp.out
  have f2 : w.frozen? ⟨PB, 2, none⟩ = false := frozen_of_row _ _ _ _ _ hp.out
  cases bo with
  | none =>
    obtain ⟨rfl, rfl⟩ := hbo rfl
    go_enter Ybad.func9, Ybad.ntmps9
    go_wp2
    go_end0
    exact ⟨rfl, part_set (part_set (part_set hp.out 0 _) 1 _) 2 _, (((Fr.refl (fun k => k = PB) w).set (g := PB) rfl _ _).set (g := PB) rfl _ _).set (g := PB) rfl _ _⟩
  | some x =>
    clear hbo
    go_enter Ybad.func9, Ybad.ntmps9
    go_wp2
    go_end0
    exact ⟨rfl, part_set (part_set (part_set hp.out 0 _) 1 _) 2 _, (((Fr.refl (fun k => k = PB) w).set (g := PB) rfl _ _).set (g := PB) rfl _ _).set (g := PB) rfl _ _⟩
theorem Fr.weak {may may' : Nat → Prop} {a b : World} (h : Fr may a b) (hm : ∀ k, may k → may' k) : Fr may' a b := ⟨h.os, h.tape, h.output, h.size, fun k hk hn => h.block k hk (fun e => hn (hm k e))⟩

theorem info27 : (Ybad.prog.info? 27).map (fun i => (i.zero, i.size, i.bytes)) = some (some (.agg #[.int .i64 0, .int .i64 0, .slice none 0 0]), 3, 40) := by kernel_rfl
/-- n refusals, all zero. -/
def zrow (n : Nat) : Array Value := Builtin.zeroCells #[.int .i64 0, .int .i64 0, .slice none 0 0] n
theorem zrow_size (n : Nat) : (zrow n).size = n * 3 := by simp [zrow, Builtin.zeroCells]
theorem zrow_get (n j : Nat) (hj : j < n * 3) : (zrow n)[j]? = some ((#[.int .i64 0, .int .i64 0, .slice none 0 0] : Array Value)[j % 3]!) := by
  simp [zrow, Builtin.zeroCells, hj]
theorem zrow_one (n : Nat) : ∀ v ∈ (zrow n).toList, v.oneCell' = true := by
  intro v hv
  obtain ⟨j, hj, rfl⟩ := List.getElem_of_mem hv
  have hj' : j < n * 3 := by simpa [zrow_size] using hj
  have h := zrow_get n j hj'
  rw [Array.getElem?_eq_getElem (by simpa using hj)] at h
  have h' := Option.some.inj h
  simp only [Array.getElem_toList]
  rw [h']
  have : j % 3 < 3 := Nat.mod_lt _ (by omega)
  match j % 3, this with
  | 0, _ => rfl
  | 1, _ => rfl
  | 2, _ => rfl
theorem run_clear (w : World) (RB n ty : Nat) (cur : Array Value) (hg : w.heap[RB]? = some (.cells cur 27 (0, 0))) (hs : cur.size = n * 3) :
    (Builtin.clear_ #[24] ty #[.slice (some ⟨RB, 0, none⟩) n n]).run Ybad.prog w = .ok (.tuple #[]) (w.setRow RB (zrow n)) := by
  obtain ⟨i0, hi, hz0, hz1, hz2⟩ := info_parts info27
  by_cases h0 : n = 0
  · subst h0
    have e : cur = zrow 0 := by
      have h1 : cur = #[] := Array.eq_empty_of_size_eq_zero (by simpa using hs)
      have h2 : zrow 0 = #[] := Array.eq_empty_of_size_eq_zero (by simp [zrow_size])
      rw [h1, h2]
    rw [← e, setRow_self w RB cur 27 _ hg]
    simp [Builtin.clear_, run_underlying Ybad.underlying24]
  · have hst := run_storeCells_at Ybad.prog RB 0 27 (zrow n).toList 0 cur w hg (by simp [zrow_size]; omega) (zrow_one n)
    have e : (cur.toList.take (0 + 0) ++ (zrow n).toList ++ cur.toList.drop (0 + 0 + (zrow n).toList.length)).toArray = zrow n := by
      have e1 : cur.toList.drop ((zrow n).toList.length) = [] := List.drop_eq_nil_of_le (by simp [zrow_size]; omega)
      simp only [Nat.zero_add, List.take_zero, List.nil_append, e1, List.append_nil, Array.toArray_toList]
    rw [e] at hst
    obtain ⟨m, rfl⟩ : ∃ m, n = m + 1 := ⟨n - 1, by omega⟩
    have hz : (zeroValue 27).run Ybad.prog w = .ok (.agg #[.int .i64 0, .int .i64 0, .slice none 0 0]) w := by simp [zeroValue, typeInfo, hi, hz0]
    simp [Builtin.clear_, run_underlying Ybad.underlying24, hz, Value.cells]
    rw [show Builtin.zeroCells #[Value.int IntKind.i64 0, Value.int IntKind.i64 0, Value.slice none 0 0] (m + 1) = zrow (m + 1) from rfl, hst]
    rfl

/-- The worlds that nextPart leaves. -/
structure Nx (w w' : World) (c6 PB RB n1 bc s r : Nat) (bo : Option Addr) (q : Value) : Prop where
  part : w'.heap[PB]? = some (.cells (partc (.slice bo 0 bc) 0 (.slice (some ⟨RB, 0, none⟩) 0 n1) 0 false) 34 (0, 0))
  row : w'.heap[RB]? = some (.cells (zrow n1) 27 (0, 0))
  chan : w'.heap[c6]? = some (.chan 2 #[q] false s (r + 1) false)
  fr : Fr (fun k => k = PB ∨ k = RB ∨ k = c6) w w'

theorem chan_self (w : World) (c cap : Nat) (buf : Array Value) (cl : Bool) (s r : Nat) (tm : Bool) (h : c < w.heap.size) : (w.setChan c cap buf cl s r tm).heap[c]? = some (.chan cap buf cl s r tm) := heap_setChan w c cap buf cl s r tm h

set_option maxRecDepth 100000 in
set_option maxHeartbeats 1000000 in
theorem next_any (BB c6 PB s r n1 : Nat) (q : Value) (RB : Nat) (bo : Option Addr) (bl bc : Nat) (lr rb : Int) (la : Bool) (cur : Array Value) (w : World)
    (h6 : w.cell? ⟨BB, 6, none⟩ = some (.chan (some c6))) (hch : Hid (w.heap[c6]? = some (.chan 2 #[.pointer (some ⟨PB, 0, none⟩), q] false s r false))) (hbo : Hid (bo = none → bl = 0 ∧ bc = 0))
    (hp : Hid (w.heap[PB]? = some (.cells (partc (.slice bo bl bc) lr (.slice (some ⟨RB, 0, none⟩) n1 n1) rb la) 34 (0, 0)))) (hr : Hid (w.heap[RB]? = some (.cells cur 27 (0, 0)) ∧ cur.size = n1 * 3))
    (n1' : Hid (PB ≠ RB ∧ PB ≠ c6 ∧ RB ≠ c6)) :
    Calls Ybad.prog 5 #[.pointer (some ⟨BB, 0, none⟩)] w fun e w' => e = .returned (.pointer (some ⟨PB, 0, none⟩)) ∧ Nx w w' c6 PB RB n1 bc s r bo q := by
  have lc : c6 < w.heap.size := (Array.getElem?_eq_some_iff.1 hch.out).1
  go_enter Ybad.func5, Ybad.ntmps5
  go_upto_region 1 with fail
  refine wpi_region [0, 1, 2, 3, 4, 5] (by rfl) ?_
  refine wpi_value (by rfl) (by rfl) (.pointer (some ⟨BB, 0, none⟩)) (by go_simp) ?_
  refine wpi_value (by rfl) (by rfl) (.pointer (some ⟨BB, 0, none⟩)) (by go_simp) ?_
  refine wpi_value (by rfl) (by rfl) (.pointer (some ⟨BB, 6, none⟩)) (by go_simp) ?_
  refine wpi_value (by rfl) (by rfl) (.chan (some c6)) (by go_simp) ?_
  refine wpi_recv (by rfl) (by rfl) 40 (.tmp 7) (by rfl) _ 28 Ybad.underlying40 (.pointer none) (by go_simp) c6 2 _ s r (by rfl) hch.out (by simp) ?_
  refine wpi_value (by rfl) (by rfl) (.pointer (some ⟨PB, 0, none⟩)) (by go_simp) ?_
  refine wpi_nil ?_
  have HF1 : Hid (Fr (fun k => k = PB ∨ k = RB ∨ k = c6) w (w.setChan c6 2 #[q] false s (r + 1) false)) := (Fr.refl _ w).chan (Or.inr (Or.inr rfl)) _ _ _ _ _ _
  have HC1 : Hid ((w.setChan c6 2 #[q] false s (r + 1) false).heap[c6]? = some (.chan 2 #[q] false s (r + 1) false)) := chan_self w _ _ _ _ _ _ _ lc
  have hoth : ∀ k, k ≠ c6 → (w.setChan c6 2 #[q] false s (r + 1) false).heap[k]? = w.heap[k]? := fun k hk => by simp only [World.setChan]; rw [Array.getElem?_setIfInBounds_ne (Ne.symm hk)]
  have HP1 : Hid ((w.setChan c6 2 #[q] false s (r + 1) false).heap[PB]? = some (.cells (partc (.slice bo bl bc) lr (.slice (some ⟨RB, 0, none⟩) n1 n1) rb la) 34 (0, 0))) := (hoth _ n1'.out.2.1).trans hp.out
  have HR1 : Hid ((w.setChan c6 2 #[q] false s (r + 1) false).heap[RB]? = some (.cells cur 27 (0, 0))) := (hoth _ n1'.out.2.2).trans hr.out.1
  clear hoth
  show Exit.then _ _ Exit.normal _ (w.setChan c6 2 #[q] false s (r + 1) false)
  generalize w.setChan c6 2 #[q] false s (r + 1) false = W1 at *
  go_wp2_with fail
  refine (reset_any PB bo bl bc hbo.out lr rb _ la W1 HP1).mono ?_
  rintro e W2 ⟨rfl, hp2, hf2⟩
  have HP2 : Hid (W2.heap[PB]? = some (.cells (partc (.slice bo 0 bc) 0 (.slice (some ⟨RB, 0, none⟩) n1 n1) rb la) 34 (0, 0))) := hp2
  have HR2 : Hid (W2.heap[RB]? = some (.cells cur 27 (0, 0))) := (hf2.block _ (Array.getElem?_eq_some_iff.1 HR1.out).1 (Ne.symm n1'.out.1)).trans HR1.out
  have HC2 : Hid (W2.heap[c6]? = some (.chan 2 #[q] false s (r + 1) false)) := (hf2.block _ (Array.getElem?_eq_some_iff.1 HC1.out).1 (Ne.symm n1'.out.2.1)).trans HC1.out
  have HF2 : Hid (Fr (fun k => k = PB ∨ k = RB ∨ k = c6) w W2) := HF1.out.trans (hf2.weak (fun k h => Or.inl h))
  clear hp2 hf2 HP1 HR1 HC1 HF1 hp hch
  obtain ⟨_, _, _, c3, _, _⟩ := part_0 HP2.out
  have hclr := fun ty => run_clear W2 RB n1 ty cur HR2.out hr.out.2
  have Hclr : Hid (∀ ty, (Builtin.clear_ #[24] ty #[.slice (some ⟨RB, 0, none⟩) n1 n1]).run Ybad.prog W2 = .ok (.tuple #[]) (W2.setRow RB (zrow n1))) := hclr
  clear hclr
  go_upto_region 4 with (rw [Hclr.out])
  have HP3 : Hid ((W2.setRow RB (zrow n1)).heap[PB]? = some (.cells (partc (.slice bo 0 bc) 0 (.slice (some ⟨RB, 0, none⟩) n1 n1) rb la) 34 (0, 0))) := (setRow_other W2 RB PB _ n1'.out.1).trans HP2.out
  have HR3 : Hid ((W2.setRow RB (zrow n1)).heap[RB]? = some (.cells (zrow n1) 27 (0, 0))) := setRow_heap W2 RB cur _ 27 _ HR2.out
  have HC3 : Hid ((W2.setRow RB (zrow n1)).heap[c6]? = some (.chan 2 #[q] false s (r + 1) false)) := (setRow_other W2 RB c6 _ (Ne.symm n1'.out.2.2)).trans HC2.out
  have HF3 : Hid (Fr (fun k => k = PB ∨ k = RB ∨ k = c6) w (W2.setRow RB (zrow n1))) := HF2.out.row (Or.inr (Or.inl rfl)) _
  clear HP2 HR2 HC2 HF2 Hclr c3 hr
  generalize W2.setRow RB (zrow n1) = W3 at *
  obtain ⟨c0, c1, c2, c3, c4, c5⟩ := part_0 HP3.out
  have f3 : W3.frozen? ⟨PB, 3, none⟩ = false := frozen_of_row _ _ _ _ _ HP3.out
  have f4 : W3.frozen? ⟨PB, 4, none⟩ = false := frozen_of_row _ _ _ _ _ HP3.out
  have f5 : W3.frozen? ⟨PB, 5, none⟩ = false := frozen_of_row _ _ _ _ _ HP3.out
  go_wp2
  go_ret
  refine ⟨rfl, part_set (part_set (part_set HP3.out 3 _) 4 _) 5 _, ?_, ?_, ((HF3.out.set (g := PB) (Or.inl rfl) _ _).set (g := PB) (Or.inl rfl) _ _).set (g := PB) (Or.inl rfl) _ _⟩
  · rw [heap_setCell_other _ _ _ _ (Ne.symm n1'.out.1), heap_setCell_other _ _ _ _ (Ne.symm n1'.out.1), heap_setCell_other _ _ _ _ (Ne.symm n1'.out.1)]; exact HR3.out
  · rw [heap_setCell_other _ _ _ _ (Ne.symm n1'.out.2.1), heap_setCell_other _ _ _ _ (Ne.symm n1'.out.2.1), heap_setCell_other _ _ _ _ (Ne.symm n1'.out.2.1)]; exact HC3.out
end Go.Proofs.YbulkdmxaDoor.Next
