import Derived.Test.YbulkdmvyCmp
import Derived.Deep.AppendLies
import Derived.Deep.DeepCutAuto
import Derived.Deep.RegionLaw
namespace Go.Proofs.Ybulkdmvy.Lift
open Go.ChangeShapes Go.WideShapes Go.ChangeAt Go.RowKit
set_option linter.unusedSimpArgs false

/-- A block of n virtual times, the first q of them known. -/
def VBlk (w : World) (b n q : Nat) (H L : Nat → Nat) : Prop :=
  ∃ cur : Array Value, w.heap[b]? = some (.cells cur 29 (0, 0)) ∧ cur.size = n * 2 ∧ ∀ k, k < q → cur[k * 2]? = some (.int .u64 (H k : Int)) ∧ cur[k * 2 + 1]? = some (.int .u64 (L k : Int))
theorem VBlk.lt {w : World} {b n q : Nat} {H L : Nat → Nat} (h : VBlk w b n q H L) : b < w.heap.size := by
  obtain ⟨cur, hb, _⟩ := h; exact (Array.getElem?_eq_some_iff.1 hb).1
theorem VBlk.c0 {w : World} {b n q : Nat} {H L : Nat → Nat} (h : VBlk w b n q H L) {k : Nat} (hk : k < q) : w.cell? ⟨b, k * 2, none⟩ = some (.int .u64 (H k : Int)) := by
  obtain ⟨cur, hb, _, hc⟩ := h; rw [cell_of_row _ _ _ _ _ _ hb]; exact (hc k hk).1
theorem VBlk.c1 {w : World} {b n q : Nat} {H L : Nat → Nat} (h : VBlk w b n q H L) {k : Nat} (hk : k < q) : w.cell? ⟨b, k * 2 + 1, none⟩ = some (.int .u64 (L k : Int)) := by
  obtain ⟨cur, hb, _, hc⟩ := h; rw [cell_of_row _ _ _ _ _ _ hb]; exact (hc k hk).2
theorem VBlk.some {w : World} {b n q : Nat} {H L : Nat → Nat} (h : VBlk w b n q H L) {j : Nat} (hj : j < n * 2) : ∃ v, w.cell? ⟨b, j, none⟩ = some v := by
  obtain ⟨cur, hb, hs, _⟩ := h; rw [cell_of_row _ _ _ _ _ _ hb]; exact ⟨cur[j], by simp⟩
theorem VBlk.fr {w : World} {b n q : Nat} {H L : Nat → Nat} (h : VBlk w b n q H L) (j : Nat) : w.frozen? ⟨b, j, none⟩ = false := by
  obtain ⟨cur, hb, _⟩ := h; exact frozen_of_row _ _ _ _ _ hb
theorem VBlk.same {w w' : World} {b n q : Nat} {H L : Nat → Nat} (h : VBlk w b n q H L) (e : w'.heap[b]? = w.heap[b]?) : VBlk w' b n q H L := by
  obtain ⟨cur, hb, r⟩ := h; exact ⟨cur, e.trans hb, r⟩
theorem VBlk.congr {w : World} {b n q : Nat} {H L H' L' : Nat → Nat} (h : VBlk w b n q H L) (e : ∀ k, k < q → H k = H' k ∧ L k = L' k) : VBlk w b n q H' L' := by
  obtain ⟨cur, hb, hs, hc⟩ := h; exact ⟨cur, hb, hs, fun k hk => by rw [← (e k hk).1, ← (e k hk).2]; exact hc k hk⟩
/-- One element set; the known ones and it are known then. -/
theorem VBlk.set {w : World} {b n q q' : Nat} {H L H' L' : Nat → Nat} (h : VBlk w b n q H L) {k x y : Nat} (hk : k < n) (hx : H' k = x) (hy : L' k = y) (e : ∀ j, j < q' → j ≠ k → j < q ∧ H j = H' j ∧ L j = L' j) :
    VBlk ((w.setCell ⟨b, k * 2, none⟩ (.int .u64 (x : Int))).setCell ⟨b, k * 2 + 1, none⟩ (.int .u64 (y : Int))) b n q' H' L' := by
  obtain ⟨cur, hb, hs, hc⟩ := h
  have h1 := heap_setCell_same w b (k * 2) cur 29 (.int .u64 (x : Int)) hb
  have h2 := heap_setCell_same _ b (k * 2 + 1) _ 29 (.int .u64 (y : Int)) h1
  refine ⟨_, h2, by simpa using hs, fun j hj => ?_⟩
  subst hx hy
  by_cases ej : j = k
  · subst ej
    constructor
    · rw [Array.getElem?_setIfInBounds, if_neg (by omega), Array.getElem?_setIfInBounds, if_pos rfl, if_pos (by omega)]
    · rw [Array.getElem?_setIfInBounds, if_pos rfl, if_pos (by simp; omega)]
  · obtain ⟨hq, e1, e2⟩ := e j hj ej
    constructor
    · rw [Array.getElem?_setIfInBounds, if_neg (by omega), Array.getElem?_setIfInBounds, if_neg (by omega), ← e1]; exact (hc j hq).1
    · rw [Array.getElem?_setIfInBounds, if_neg (by omega), Array.getElem?_setIfInBounds, if_neg (by omega), ← e2]; exact (hc j hq).2

/-- A slice of lifts. -/
def LRow (w : World) (ao : Option Addr) (m b : Nat) (N TH TL : Nat → Nat) : Prop := 0 < m → ao = some ⟨b, 0, none⟩ ∧ ∀ i, i < m → w.cell? ⟨b, i * 3, none⟩ = some (.int .i64 (N i : Int)) ∧ w.cell? ⟨b, i * 3 + 1, none⟩ = some (.int .u64 (TH i : Int)) ∧ w.cell? ⟨b, i * 3 + 2, none⟩ = some (.int .u64 (TL i : Int))
theorem LRow.lt {w : World} {ao : Option Addr} {m b : Nat} {N TH TL : Nat → Nat} (h : LRow w ao m b N TH TL) (h0 : 0 < m) : b < w.heap.size := World.block_lt_of_cell? _ _ ((h h0).2 0 h0).1
theorem LRow.same {w w' : World} {ao : Option Addr} {m b : Nat} {N TH TL : Nat → Nat} (h : LRow w ao m b N TH TL) (e : 0 < m → w'.heap[b]? = w.heap[b]?) : LRow w' ao m b N TH TL := fun h0 => by
  obtain ⟨ea, hc⟩ := h h0
  have ec : ∀ j, w'.cell? ⟨b, j, none⟩ = w.cell? ⟨b, j, none⟩ := fun j => World.cell?_of_block (w := w) (e h0)
  exact ⟨ea, fun i hi => by rw [ec, ec, ec]; exact hc i hi⟩

def offs (N : Nat → Nat) : Nat → Nat
  | 0 => 0
  | m + 1 => offs N m + N m
theorem offs_mono (N : Nat → Nat) {a b : Nat} (h : a ≤ b) : offs N a ≤ offs N b := by
  induction b with
  | zero => obtain rfl : a = 0 := by omega
            exact Nat.le_refl _
  | succ b ih =>
    by_cases e : a = b + 1
    · subst e; exact Nat.le_refl _
    · exact Nat.le_trans (ih (by omega)) (Nat.le_add_right _ _)
/-- The k-th comeback behind m lifts. -/
def E (H L N TH TL : Nat → Nat) : Nat → Nat → Nat × Nat
  | 0, k => (H k, L k)
  | m + 1, k => if (offs N m ≤ k ∧ k < offs N m + N m) ∧ later (TH m) (TL m) (E H L N TH TL m k).1 (E H L N TH TL m k).2 = true then (TH m, TL m) else E H L N TH TL m k
/-- Behind m lifts and the run of the next one up to place q. -/
def mix (H L N TH TL : Nat → Nat) (m q k : Nat) : Nat × Nat := if k < q then E H L N TH TL (m + 1) k else E H L N TH TL m k

/-- All that was there stands, but block B. -/
structure Kp (B : Nat) (w w' : World) : Prop where
  os : w'.os = w.os
  tape : w'.tape = w.tape
  output : w'.output = w.output
  size : w.heap.size ≤ w'.heap.size
  block : ∀ k, k < w.heap.size → k ≠ B → w'.heap[k]? = w.heap[k]?
theorem Kp.refl (B : Nat) (w : World) : Kp B w w := ⟨rfl, rfl, rfl, Nat.le_refl _, fun _ _ _ => rfl⟩
theorem Kp.trans {B : Nat} {a b c : World} (h : Kp B a b) (k : Kp B b c) : Kp B a c :=
  ⟨k.os.trans h.os, k.tape.trans h.tape, k.output.trans h.output, Nat.le_trans h.size k.size, fun j hj hB => (k.block j (Nat.lt_of_lt_of_le hj h.size) hB).trans (h.block j hj hB)⟩
theorem Kp.below {B : Nat} {a b c : World} (h : Kp B a b) (k : Below b.heap.size b c) : Kp B a c := h.trans ⟨k.os, k.tape, k.output, k.size, fun j hj _ => k.block j hj⟩
theorem Kp.set {B : Nat} {a b : World} (h : Kp B a b) (o : Nat) (v : Value) : Kp B a (b.setCell ⟨B, o, none⟩ v) :=
  h.trans ⟨rfl, rfl, rfl, by simp [World.setCell], fun j _ hB => heap_setCell_other _ _ _ _ hB⟩
theorem Kp.cell {B : Nat} {w w' : World} (h : Kp B w w') {p : Addr} {v : Value} (hc : w.cell? p = some v) (hB : p.block ≠ B) : w'.cell? p = some v :=
  (World.cell?_of_block (w := w) (h.block p.block (World.block_lt_of_cell? _ _ hc) hB)).trans hc
theorem Kp.frozen {B : Nat} {w w' : World} (h : Kp B w w') {p : Addr} (hp : p.block < w.heap.size) (hB : p.block ≠ B) : w'.frozen? p = w.frozen? p :=
  World.frozen?_of_block (w := w) (h.block p.block hp hB)

theorem Kp.alloc {B : Nat} {a b : World} (h : Kp B a b) (o : Obj) : Kp B a (b.alloc o) := h.below ((Below.refl _ b).alloc (Nat.le_refl _) o)
theorem mix_start (H L N TH TL : Nat → Nat) (m k : Nat) : mix H L N TH TL m (offs N m) k = E H L N TH TL m k := by
  unfold mix
  split
  · rw [E, if_neg (by omega)]
  · rfl
theorem mix_end (H L N TH TL : Nat → Nat) (m k : Nat) : mix H L N TH TL m (offs N m + N m) k = E H L N TH TL (m + 1) k := by
  unfold mix
  split
  · rfl
  · rw [E, if_neg (by omega)]
theorem mix_at (H L N TH TL : Nat → Nat) (m q : Nat) : mix H L N TH TL m q q = E H L N TH TL m q := by
  unfold mix; rw [if_neg (by omega)]
theorem mix_other (H L N TH TL : Nat → Nat) (m q k : Nat) (h : k ≠ q) : mix H L N TH TL m q k = mix H L N TH TL m (q + 1) k := by
  unfold mix
  by_cases e : k < q
  · rw [if_pos e, if_pos (by omega)]
  · rw [if_neg e, if_neg (by omega)]
theorem mix_new (H L N TH TL : Nat → Nat) (m q : Nat) (h1 : offs N m ≤ q) (h2 : q < offs N m + N m) :
    vmax (mix H L N TH TL m q q).1 (mix H L N TH TL m q q).2 (TH m) (TL m) = vt (mix H L N TH TL m (q + 1) q).1 (mix H L N TH TL m (q + 1) q).2 := by
  rw [mix_at]
  have e : mix H L N TH TL m (q + 1) q = E H L N TH TL (m + 1) q := by unfold mix; rw [if_pos (by omega)]
  rw [e, E]
  unfold vmax
  by_cases hl : later (TH m) (TL m) (E H L N TH TL m q).1 (E H L N TH TL m q).2 = true
  · rw [if_pos hl, if_pos ⟨⟨h1, h2⟩, hl⟩]
  · rw [if_neg hl, if_neg (fun h => hl h.2)]

/-- What the inner loop stands on. -/
structure Inn (FB B X n : Nat) (Nm Th Tl : Nat) (W1 : World) : Prop where
  hd : W1.cell? ⟨FB, 15, none⟩ = some (.slice (some ⟨B, 0, none⟩) n n)
  x0 : W1.cell? ⟨X, 0, none⟩ = some (.int .i64 (Nm : Int))
  x1 : W1.cell? ⟨X, 1, none⟩ = some (.int .u64 (Th : Int))
  x2 : W1.cell? ⟨X, 2, none⟩ = some (.int .u64 (Tl : Int))
  ne : X ≠ B
theorem Inn.keep {FB B X n Nm Th Tl : Nat} {W1 w' : World} (h : Inn FB B X n Nm Th Tl W1) (hF : FB ≠ B) (k : Kp B W1 w') : Inn FB B X n Nm Th Tl w' :=
  ⟨k.cell h.hd hF, k.cell h.x0 h.ne, k.cell h.x1 h.ne, k.cell h.x2 h.ne, h.ne⟩
theorem inn_mk {FB B n Nm Th Tl : Nat} {wr : World} (hc : wr.cell? ⟨FB, 15, none⟩ = some (.slice (some ⟨B, 0, none⟩) n n)) (hB : B < wr.heap.size) :
    Inn FB B wr.heap.size n Nm Th Tl (wr.alloc (.cells #[.int .i64 (Nm : Int), .int .u64 (Th : Int), .int .u64 (Tl : Int)] 35)) := by
  have hb := heap_alloc_new wr (.cells #[.int .i64 (Nm : Int), .int .u64 (Th : Int), .int .u64 (Tl : Int)] 35)
  refine ⟨?_, ?_, ?_, ?_, by omega⟩
  · rw [World.cell?_alloc_lt (h := World.block_lt_of_cell? _ _ hc)]; exact hc
  · rw [cell_of_row _ _ _ _ _ _ hb]; rfl
  · rw [cell_of_row _ _ _ _ _ _ hb]; rfl
  · rw [cell_of_row _ _ _ _ _ _ hb]; rfl

/-- A call of a Go function as one step of a region that draws its order, by its contract. -/
theorem step_call {P : Program} {ops : Array Oper} {o : Oper} {a : Act} {w : World} {K : Act → World → Prop} {Q : Exit → Act → World → Prop} {E : Prop}
    {f : FuncId} {fn : Func} (hf : P.funcs[f]? = some fn) (hn : (fn.name == "runtime.NumGoroutine") = false) (hbd : fn.body.isNone = false) (hg : o.guard = none) (args : List Operand) (ats : Array TypeId) (ho : o.op = .call { callee := .value (.func f), args := args.toArray, argTypes := ats })
    (vs : List Value) (hvs : args.map a.eval = vs) (R : Ending → World → Prop) (hc : Calls P f vs.toArray w R) (h : ∀ e w', R e w' → ∃ v, e = .returned v ∧ K (a.put o.dst v) w') :
    if Region.wanted o (yielded ops a.tmps) = true then Oper.wp P o a w K Q else E := by
  have hw : Region.wanted o (yielded ops a.tmps) = true := by simp [Region.wanted, hg]
  rw [if_pos hw]
  unfold Oper.wp
  subst hvs
  have e : (execOp a.eval o).run P w = .ok (.enter f (args.map a.eval).toArray) w := by
    simp [execOp, ho, resolve, invoke, Act.eval, Result.andThen, Deferred.ofValue, callFunc, hf, -beq_iff_eq, hn, hbd, -Option.isNone_iff_eq_none]
  rw [e, Oper.upon_enter]
  refine hc.mono fun e w' hR => ?_
  obtain ⟨v, rfl, hk⟩ := h e w' hR
  exact hk

theorem kept8 {FB B q : Nat} {wi w2 : World} {u v0 v1 : Value} (i0 : wi.cell? ⟨FB, 15, none⟩ = some u) (e0 : wi.cell? ⟨B, q * 2, none⟩ = some v0) (e1 : wi.cell? ⟨B, q * 2 + 1, none⟩ = some v1)
    (f0 : wi.frozen? ⟨B, q * 2, none⟩ = false) (f1 : wi.frozen? ⟨B, q * 2 + 1, none⟩ = false) (hb : Below wi.drew.heap.size wi.drew w2) :
    w2.cell? ⟨FB, 15, none⟩ = some u ∧ w2.cell? ⟨B, q * 2, none⟩ = some v0 ∧ w2.cell? ⟨B, q * 2 + 1, none⟩ = some v1 ∧ w2.frozen? ⟨B, q * 2, none⟩ = false ∧ w2.frozen? ⟨B, q * 2 + 1, none⟩ = false := by
  have lB := World.block_lt_of_cell? _ _ e0
  exact ⟨(hb.cell (by exact World.block_lt_of_cell? _ _ i0)).trans i0, (hb.cell (by exact lB)).trans e0, (hb.cell (by exact lB)).trans e1, (hb.frozen (by exact lB)).trans f0, (hb.frozen (by exact lB)).trans f1⟩
def endW (b : Bool) (w : World) (FB : Nat) (e : Nat × Nat) : World := if b then (w.setCell ⟨FB, 3, none⟩ (.int .u64 (e.1 : Int))).setCell ⟨FB, 4, none⟩ (.int .u64 (e.2 : Int)) else w
def moved (n : Nat) (e : Nat × Nat) (vh vl : Nat) : Bool := decide (0 < n) && later e.1 e.2 vh vl
theorem below_undrew {w w' : World} (h : Below w.drew.heap.size w.drew w') : Below w.heap.size w w' := ⟨h.os, h.tape, h.output, h.size, h.block⟩
theorem kept11 {FB B : Nat} {wi w2 : World} {u v0 v1 v2 v3 : Value} (i0 : wi.cell? ⟨FB, 15, none⟩ = some u) (e0 : wi.cell? ⟨B, 0, none⟩ = some v0) (e1 : wi.cell? ⟨B, 1, none⟩ = some v1) (g0 : wi.cell? ⟨FB, 3, none⟩ = some v2) (g1 : wi.cell? ⟨FB, 4, none⟩ = some v3)
    (g2 : wi.frozen? ⟨FB, 3, none⟩ = false) (g3 : wi.frozen? ⟨FB, 4, none⟩ = false) (hb : Below wi.drew.heap.size wi.drew w2) :
    w2.cell? ⟨FB, 15, none⟩ = some u ∧ w2.cell? ⟨B, 0, none⟩ = some v0 ∧ w2.cell? ⟨B, 1, none⟩ = some v1 ∧ w2.cell? ⟨FB, 3, none⟩ = some v2 ∧ w2.cell? ⟨FB, 4, none⟩ = some v3 ∧ w2.frozen? ⟨FB, 3, none⟩ = false ∧ w2.frozen? ⟨FB, 4, none⟩ = false := by
  have lB := World.block_lt_of_cell? _ _ e0
  have lF := World.block_lt_of_cell? _ _ i0
  exact ⟨(hb.cell (by exact lF)).trans i0, (hb.cell (by exact lB)).trans e0, (hb.cell (by exact lB)).trans e1, (hb.cell (by exact lF)).trans g0, (hb.cell (by exact lF)).trans g1, (hb.frozen (by exact lF)).trans g2, (hb.frozen (by exact lF)).trans g3⟩
theorem nm9 : (Yba.f9.name == "runtime.NumGoroutine") = false := by kernel_rfl
theorem bd9 : Yba.f9.body.isNone = false := by kernel_rfl
theorem nm10 : (Yba.f10.name == "runtime.NumGoroutine") = false := by kernel_rfl
theorem bd10 : Yba.f10.body.isNone = false := by kernel_rfl

set_option maxRecDepth 100000 in
set_option maxHeartbeats 1000000 in
theorem lift_any (FB B LB n M c : Nat) (lo : Option Addr) (H L N TH TL : Nat → Nat) (vh vl : Nat) (w : World) (hn : n ≤ 4096) (hM : M ≤ 4096) (hoff : offs N M ≤ n)
    (hc : w.cell? ⟨FB, 15, none⟩ = some (.slice (some ⟨B, 0, none⟩) n n)) (hl : w.cell? ⟨FB, 16, none⟩ = some (.slice lo M c))
    (hV : Hid (VBlk w B n n H L)) (hL : Hid (LRow w lo M LB N TH TL)) (hFB : FB ≠ B) (hLB : 0 < M → LB ≠ B)
    (hv0 : w.cell? ⟨FB, 3, none⟩ = some (.int .u64 (vh : Int))) (hv1 : w.cell? ⟨FB, 4, none⟩ = some (.int .u64 (vl : Int))) (hf0 : w.frozen? ⟨FB, 3, none⟩ = false) (hf1 : w.frozen? ⟨FB, 4, none⟩ = false) :
    Calls Yba.prog 6 #[.pointer (some ⟨FB, 0, none⟩)] w fun e w' => ∃ w1, e = .returned (.bool (moved n (E H L N TH TL M 0) vh vl)) ∧ Kp B w w1 ∧ VBlk w1 B n n (fun k => (E H L N TH TL M k).1) (fun k => (E H L N TH TL M k).2) ∧
      w' = endW (moved n (E H L N TH TL M 0) vh vl) w1 FB (E H L N TH TL M 0) := by
  go_enter Yba.func6, Yba.ntmps6
  go_wp2
  go_loopw [3, 12] (fun i x wr => ∃ m : Nat, m ≤ M ∧ i = .int .i64 (offs N m : Nat) ∧ x = .int .i64 m ∧ Hid (Kp B w wr) ∧ Hid (VBlk wr B n n (fun k => (E H L N TH TL m k).1) (fun k => (E H L N TH TL m k).2))) (fun _ x _ => M - (intOf x).toNat)
  case atStart => exact ⟨0, by omega, rfl, rfl, Kp.refl _ _, hV⟩
  case round =>
    obtain ⟨m, hm, rfl, rfl, hK, hV'⟩ := hrel
    have hc1 : wr.cell? ⟨FB, 15, none⟩ = some (.slice (some ⟨B, 0, none⟩) n n) := hK.out.cell hc hFB
    by_cases hlt : m < M
    · obtain ⟨rfl, hlc⟩ := hL.out (by omega)
      obtain ⟨l0, l1, l2⟩ := hlc m hlt
      have r0 := hK.out.cell l0 (hLB (by omega))
      have r1 := hK.out.cell l1 (hLB (by omega))
      have r2 := hK.out.cell l2 (hLB (by omega))
      have hm0 : (0 : Int) ≤ (m : Int) := by omega
      have hmn : (m : Int) < (M : Int) := by omega
      clear hlc l0 l1 l2
      go_wp2
      have HI : Hid (Inn FB B wr.heap.size n (N m) (TH m) (TL m) (wr.alloc (.cells #[.int .i64 (N m : Int), .int .u64 (TH m : Int), .int .u64 (TL m : Int)] 35))) := inn_mk hc1 hV'.out.lt
      have HK1 : Hid (Kp B w (wr.alloc (.cells #[.int .i64 (N m : Int), .int .u64 (TH m : Int), .int .u64 (TL m : Int)] 35))) := hK.out.alloc _
      have HV1 : Hid (VBlk (wr.alloc (.cells #[.int .i64 (N m : Int), .int .u64 (TH m : Int), .int .u64 (TL m : Int)] 35)) B n n (fun k => (mix H L N TH TL m (offs N m) k).1) (fun k => (mix H L N TH TL m (offs N m) k).2)) := by
        simp only [mix_start]
        exact hV'.out.same (heap_alloc_old (h := hV'.out.lt) ..)
      have hofs : Hid (offs N m + N m ≤ n) := Nat.le_trans (offs_mono N (show m + 1 ≤ M by omega)) hoff
      generalize wr.alloc (.cells #[.int .i64 (N m : Int), .int .u64 (TH m : Int), .int .u64 (TL m : Int)] 35) = W1 at *
      generalize wr.heap.size = X at *
      clear hc1 hK hV' r0 r1 r2
      go_loopw [6] (fun j wi => ∃ q : Nat, offs N m ≤ q ∧ q ≤ offs N m + N m ∧ j = .int .i64 q ∧ Hid (Kp B W1 wi) ∧ Hid (VBlk wi B n n (fun k => (mix H L N TH TL m q k).1) (fun k => (mix H L N TH TL m q k).2))) (fun j _ => offs N m + N m - (intOf j).toNat)
      case atStart => exact ⟨offs N m, Nat.le_refl _, by omega, rfl, Kp.refl _ _, HV1⟩
      case round =>
        obtain ⟨q, hq1, hq2, rfl, hKi, hVi⟩ := hrel
        rename World => wi
        obtain ⟨i0, i1, i2, i3, i4⟩ := HI.out.keep hFB hKi.out
        have ho := hofs.out
        by_cases hlt2 : q < offs N m + N m
        · have hqn : q < n := by omega
          have e0 := hVi.out.c0 hqn
          have e1 := hVi.out.c1 hqn
          have f0 := hVi.out.fr (q * 2)
          have f1 := hVi.out.fr (q * 2 + 1)
          have hq0 : (0 : Int) ≤ (q : Int) := by omega
          have hqn' : (q : Int) < (n : Int) := by omega
          have hqt : (q : Int) < (offs N m : Int) + (N m : Int) := by omega
          have HM : Hid (∀ w, Calls Yba.prog 9 #[.agg #[.int .u64 ((mix H L N TH TL m q q).1 : Int), .int .u64 ((mix H L N TH TL m q q).2 : Int)], .agg #[.int .u64 (TH m : Int), .int .u64 (TL m : Int)]] w fun e w' => e = .returned (.agg #[.int .u64 ((mix H L N TH TL m (q + 1) q).1 : Int), .int .u64 ((mix H L N TH TL m (q + 1) q).2 : Int)]) ∧ Below w.heap.size w w') := fun w => by
            have := vmax_any (mix H L N TH TL m q q).1 (mix H L N TH TL m q q).2 (TH m) (TL m) w
            rw [mix_new H L N TH TL m q hq1 hlt2] at this
            exact this
          go_wp2
          have Hst : Hid (Calls _ _ _ _ _) := HM.out wi.drew
          go_region_law
            (first
              | (refine step_call Yba.func9 nm9 bd9 ?_ [.tmp 36, .tmp 38] #[29, 29] ?_ [.agg #[.int .u64 ((mix H L N TH TL m q q).1 : Int), .int .u64 ((mix H L N TH TL m q q).2 : Int)], .agg #[.int .u64 (TH m : Int), .int .u64 (TL m : Int)]] ?_ _ Hst.out ?_; rfl; rfl; rfl; rintro e w2 ⟨rfl, hb2⟩; refine ⟨_, rfl, ?_⟩; obtain ⟨k0, k1, k2, k3, k4⟩ := kept8 i0 e0 e1 f0 f1 hb2))
          all_goals
            have R1 : Hid (Kp B W1 ((w2.setCell ⟨B, q * 2, none⟩ (.int .u64 ((mix H L N TH TL m (q + 1) q).1 : Int))).setCell ⟨B, q * 2 + 1, none⟩ (.int .u64 ((mix H L N TH TL m (q + 1) q).2 : Int)))) := ((hKi.out.below (below_undrew hb2)).set _ _).set _ _
            have R2 : Hid (VBlk ((w2.setCell ⟨B, q * 2, none⟩ (.int .u64 ((mix H L N TH TL m (q + 1) q).1 : Int))).setCell ⟨B, q * 2 + 1, none⟩ (.int .u64 ((mix H L N TH TL m (q + 1) q).2 : Int))) B n n (fun k => (mix H L N TH TL m (q + 1) k).1) (fun k => (mix H L N TH TL m (q + 1) k).2)) :=
              (hVi.out.same (hb2.block B hVi.out.lt)).set hqn rfl rfl (fun j hj hne => ⟨hj, by rw [mix_other _ _ _ _ _ _ _ _ hne], by rw [mix_other _ _ _ _ _ _ _ _ hne]⟩)
            clear hb2 k0 k1 k2 k3 k4 e0 e1 f0 f1 i0 i1 i2 i3 HM Hst hVi hKi
            go_wp2
            go_roundw
            case rel => exact ⟨q + 1, by omega, by omega, by go_num, R1, R2⟩
            case measure => simp [intOf]; omega
        · obtain rfl : q = offs N m + N m := by omega
          have R1 : Hid (Kp B w wi) := HK1.out.trans hKi.out
          have R2 : Hid (VBlk wi B n n (fun k => (E H L N TH TL (m + 1) k).1) (fun k => (E H L N TH TL (m + 1) k).2)) := hVi.out.congr (fun k _ => by rw [mix_end]; exact ⟨rfl, rfl⟩)
          clear hVi hKi HV1 HK1
          go_wp2
          go_roundw
          case rel => exact ⟨m + 1, by omega, by show _ = Value.int .i64 ((offs N m + N m : Nat) : Int); go_num, by go_num, R1, R2⟩
          case measure => simp [intOf]; omega
    · obtain rfl : m = M := by omega
      have g0 := hK.out.cell hv0 hFB
      have g1 := hK.out.cell hv1 hFB
      have lF := World.block_lt_of_cell? _ _ hc
      have g2 : wr.frozen? ⟨FB, 3, none⟩ = false := (hK.out.frozen (by exact lF) (by exact hFB)).trans hf0
      have g3 : wr.frozen? ⟨FB, 4, none⟩ = false := (hK.out.frozen (by exact lF) (by exact hFB)).trans hf1
      by_cases h0 : n = 0
      · subst h0
        have hmv : Hid (moved 0 (E H L N TH TL m 0) vh vl = false) := by unfold Hid; simp [moved]
        go_wp2
        go_quiet (fail)
        go_wp2
        go_ret
        exact ⟨wr.drewN nq, by rw [hmv.out]; rfl, ⟨hK.out.os, hK.out.tape, hK.out.output, hK.out.size, hK.out.block⟩, hV'.out, by rw [hmv.out]; rfl⟩
      · have e0 := hV'.out.c0 (show 0 < n by omega)
        have e1 := hV'.out.c1 (show 0 < n by omega)
        simp only [Nat.zero_mul, Nat.zero_add] at e0 e1
        obtain ⟨eh, heh⟩ : ∃ x, x = (E H L N TH TL m 0).1 := ⟨_, rfl⟩
        obtain ⟨el, hel⟩ : ∃ x, x = (E H L N TH TL m 0).2 := ⟨_, rfl⟩
        rw [← heh] at e0
        rw [← hel] at e1
        have hmv : Hid (moved n (E H L N TH TL m 0) vh vl = later eh el vh vl) := by unfold Hid; rw [heh, hel]; simp [moved]; omega
        have Heh : Hid (eh = (E H L N TH TL m 0).1) := heh
        have Hel : Hid (el = (E H L N TH TL m 0).2) := hel
        clear heh hel
        have hn1 : ((n : Int) == 0) = false := by rw [beq_eq_false_iff_ne]; omega
        have hn2 : 0 < n := by omega
        clear h0
        have HC : Hid (∀ w, Calls Yba.prog 10 #[.agg #[.int .u64 (eh : Int), .int .u64 (el : Int)], .agg #[.int .u64 (vh : Int), .int .u64 (vl : Int)]] w fun e w' => e = .returned (.int .i64 (vcmp eh el vh vl)) ∧ Below w.heap.size w w') := fun w => vcompare_any eh el vh vl w
        have hle : decide (vcmp eh el vh vl ≤ 0) = !later eh el vh vl := by
          unfold later
          by_cases h : 0 < vcmp eh el vh vl
          · simp [h]
          · simp [h]; omega
        go_wp2
        go_region_held3 (fun w' => w'.cell? ⟨FB, 15, none⟩ = some (.slice (some ⟨B, 0, none⟩) n n) ∧ w'.cell? ⟨B, 0, none⟩ = some (.int .u64 (eh : Int)) ∧ w'.cell? ⟨B, 1, none⟩ = some (.int .u64 (el : Int)) ∧ w'.cell? ⟨FB, 3, none⟩ = some (.int .u64 (vh : Int)) ∧ w'.cell? ⟨FB, 4, none⟩ = some (.int .u64 (vl : Int)))
          (go_keep)
          (first
            | (go_at_call 10; refine (HC.out _).mono ?_; rintro e w2 ⟨rfl, hb2⟩; obtain ⟨k0, k1, k2, k3, k4, k5, k6⟩ := kept11 hc1 e0 e1 g0 g1 g2 g3 hb2))
        cases hL : later eh el vh vl
        · rw [hL] at hle
          have HL : Hid (moved n (E H L N TH TL m 0) vh vl = false) := hmv.out.trans hL
          clear hL hmv
          go_wp2
          go_ret
          exact ⟨w2, by rw [HL.out]; rfl, hK.out.below (below_undrew hb2), hV'.out.same (hb2.block _ hV'.out.lt), by rw [HL.out]; rfl⟩
        · rw [hL] at hle
          have HL : Hid (moved n (E H L N TH TL m 0) vh vl = true) := hmv.out.trans hL
          clear hL hmv
          go_wp2
          go_ret
          exact ⟨w2, by rw [HL.out]; rfl, hK.out.below (below_undrew hb2), hV'.out.same (hb2.block _ hV'.out.lt), by rw [HL.out, Heh.out, Hel.out]; rfl⟩
end Go.Proofs.Ybulkdmvy.Lift
