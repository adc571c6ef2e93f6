import Derived.Test.YbulkdmwmLegs
import Derived.Laws.CopyOwn
import Derived.Deep.DeepCutAuto
import Derived.Laws.DeepStrings4
namespace Go.Proofs.Ybulkdmwm.Legs
open Go.ChangeShapes Go.WideShapes Go.ChangeAt Go.RowKit
set_option linter.unusedSimpArgs false

/-- What is known of a slice of bytes that came in. -/
def U8 (w : World) (ao : Option Addr) (n b o : Nat) (z : Nat → Nat) : Prop := 0 < n → ao = some ⟨b, o, none⟩ ∧ b < w.heap.size ∧ ∀ i, i < n → w.cell? ⟨b, o + i, none⟩ = some (.int .u8 (z i : Int)) ∧ z i ≤ 255

/-- A nil slice has no element. -/
def NilZ (ao : Option Addr) (n : Nat) : Prop := ao = none → n = 0
def abc : ByteArray := ⟨#[97, 98, 99, 100, 101, 102]⟩
def sub (i : Nat) : ByteArray := abc.extract i (i + 1)

def legc (i : Nat) : Array Value := #[.string (sub i), .int .u64 0, .int .u64 0, .pointer none, .slice none 0 0]
def poolc (B k : Nat) : List Value := (List.range 6).map fun i => .pointer (if i < k then some ⟨B + 1 + i, 0, none⟩ else none)
theorem poolc_set (B k : Nat) (hk : k < 6) : (poolc B k).set k (.pointer (some ⟨B + 1 + k, 0, none⟩)) = poolc B (k + 1) := by
  match k, hk with
  | 0, _ => rfl
  | 1, _ => rfl
  | 2, _ => rfl
  | 3, _ => rfl
  | 4, _ => rfl
  | 5, _ => rfl

/-- The pool behind k rounds of the first loop. -/
structure L1 (w : World) (k : Nat) (wr : World) : Prop where
  bel : Below w.heap.size w wr
  pool : wr.heap[w.heap.size]? = some (.cells (poolc w.heap.size k).toArray 24 (0, 0))
  legs : ∀ i, i < k → wr.heap[w.heap.size + 1 + i]? = some (.cells (legc i) 35 (0, 0))
  sz : wr.heap.size = w.heap.size + 1 + k
theorem l1_start (w : World) : L1 w 0 (w.alloc (.cells #[.pointer none, .pointer none, .pointer none, .pointer none, .pointer none, .pointer none] 24)) :=
  ⟨(Below.refl _ w).alloc (Nat.le_refl _) _, heap_alloc_new w _, fun i hi => by omega, by simp⟩
theorem l1_step {w wr : World} {k : Nat} (hk : k < 6) (h : L1 w k wr) : L1 w (k + 1) ((wr.alloc (.cells (legc k) 35)).setCell ⟨w.heap.size, k, none⟩ (.pointer (some ⟨wr.heap.size, 0, none⟩))) := by
  have hs := h.sz
  have hp : (wr.alloc (.cells (legc k) 35)).heap[w.heap.size]? = some (.cells (poolc w.heap.size k).toArray 24 (0, 0)) := by
    rw [heap_alloc_old (h := by omega)]; exact h.pool
  refine ⟨(h.bel.alloc (by omega) _).setCell (Nat.le_refl _) _, ?_, fun i hi => ?_, by simp [World.setCell]; omega⟩
  · rw [heap_setCell_same _ _ _ _ _ _ hp, hs, ← poolc_set _ _ hk]
    simp
  · rw [heap_setCell_other _ _ _ _ (by simp; omega)]
    by_cases e : i = k
    · subst e
      rw [← hs]
      exact heap_alloc_new wr _
    · rw [heap_alloc_old (h := by omega)]
      exact h.legs i (by omega)
theorem l1_cell {w wr : World} {k : Nat} (hk : k < 6) (h : L1 w k wr) (o : Obj) : (wr.alloc o).cell? ⟨w.heap.size, k, none⟩ = some (.pointer none) ∧ (wr.alloc o).frozen? ⟨w.heap.size, k, none⟩ = false := by
  have hs := h.sz
  have hp : (wr.alloc o).heap[w.heap.size]? = some (.cells (poolc w.heap.size k).toArray 24 (0, 0)) := by
    rw [heap_alloc_old (h := by omega)]; exact h.pool
  exact ⟨by rw [cell_of_row _ _ _ _ _ _ hp]; simp [poolc, hk], frozen_of_row _ _ _ _ _ hp⟩

/-- The pool and its six legs stand. -/
structure Base (w wr : World) : Prop where
  bel : Below w.heap.size w wr
  pool : wr.heap[w.heap.size]? = some (.cells (poolc w.heap.size 6).toArray 24 (0, 0))
  legs : ∀ i, i < 6 → wr.heap[w.heap.size + 1 + i]? = some (.cells (legc i) 35 (0, 0))
  sz : w.heap.size + 7 ≤ wr.heap.size
theorem base_of {w wr : World} (h : L1 w 6 wr) : Base w wr := ⟨h.bel, h.pool, h.legs, by have := h.sz; omega⟩
theorem Base.step {w wr w' : World} (h : Base w wr) (hb : Below (w.heap.size + 7) wr w') : Base w w' :=
  ⟨h.bel.trans (hb.mono (by omega)), (hb.block _ (by omega)).trans h.pool, fun i hi => (hb.block _ (by omega)).trans (h.legs i hi), Nat.le_trans h.sz hb.size⟩

def L (B i : Nat) : Nat := B + 1 + i
def gonec (z : Nat → Nat) (q : Nat) : List Value := (List.range 7).map fun t => .bool ((List.range q).any fun j => decide (z j % 7 = t))
def rowc (B : Nat) (z : Nat → Nat) (n q : Nat) : List Value := (List.range n).map fun j => .pointer (if j < q then ptr (L B) (z j % 7) else none)
theorem gonec_set (z : Nat → Nat) (q : Nat) : (gonec z q).set (z q % 7) (.bool true) = gonec z (q + 1) := by
  apply List.ext_getElem?
  intro t
  rw [List.getElem?_set]
  by_cases ht : t < 7
  · have e : ∀ q, (gonec z q)[t]? = some (.bool ((List.range q).any fun j => decide (z j % 7 = t))) := fun q => by simp [gonec, ht]
    rw [e, e, List.range_succ]
    by_cases hz : z q % 7 = t
    · simp [hz, gonec, ht]
    · simp [hz]
  · have e : ∀ q, (gonec z q)[t]? = none := fun q => by simp [gonec]; omega
    rw [e, e]
    have : ¬ z q % 7 = t := by omega
    simp [this]
theorem rowc_set (B : Nat) (z : Nat → Nat) (n q : Nat) (_hq : q < n) : (rowc B z n q).set q (.pointer (ptr (L B) (z q % 7))) = rowc B z n (q + 1) := by
  apply List.ext_getElem?
  intro t
  rw [List.getElem?_set]
  by_cases ht : t < n
  · have e : ∀ q, (rowc B z n q)[t]? = some (.pointer (if t < q then ptr (L B) (z t % 7) else none)) := fun q => by simp [rowc, ht]
    rw [e, e]
    by_cases hz : q = t
    · subst hz; simp [rowc, ht]
    · simp only [if_neg hz]
      by_cases h : t < q
      · rw [if_pos h, if_pos (by omega)]
      · rw [if_neg h, if_neg (by omega)]
  · have e : ∀ q, (rowc B z n q)[t]? = none := fun q => by simp [rowc]; omega
    rw [e, e]
    have : ¬ q = t := by omega
    simp [this]
theorem rowc_zero (B : Nat) (z : Nat → Nat) (n : Nat) : rowc B z n 0 = List.replicate n (.pointer none) := by
  apply List.ext_getElem?
  intro t
  by_cases ht : t < n
  · simp [rowc, ht]
  · simp [rowc, ht]

/-- Behind q rounds of the loop over the drop list. -/
structure L2 (w : World) (n : Nat) (z : Nat → Nat) (q : Nat) (ao : Option Addr) (DB : Nat) (wr : World) : Prop where
  base : Base w wr
  gone : wr.heap[w.heap.size + 7]? = some (.cells (gonec z q).toArray 36 (0, 0))
  row : 0 < n → ao = some ⟨DB, 0, none⟩ ∧ wr.heap[DB]? = some (.cells (rowc w.heap.size z n q).toArray 23 (0, 0)) ∧ w.heap.size + 8 ≤ DB
  sz : w.heap.size + 8 ≤ wr.heap.size
theorem l2_gone {w wr : World} (hs : wr.heap.size = w.heap.size + 7) (z : Nat → Nat) :
    (wr.alloc (.cells #[.bool false, .bool false, .bool false, .bool false, .bool false, .bool false, .bool false] 36)).heap[w.heap.size + 7]? = some (.cells (gonec z 0).toArray 36 (0, 0)) := by
  rw [← hs]; exact heap_alloc_new wr _
theorem l2_nil {w wr : World} {z : Nat → Nat} {ao : Option Addr} (hb : Base w wr) (hs : wr.heap.size = w.heap.size + 7) (DB : Nat) :
    L2 w 0 z 0 ao DB (wr.alloc (.cells #[.bool false, .bool false, .bool false, .bool false, .bool false, .bool false, .bool false] 36)) :=
  ⟨hb.step ((Below.refl _ wr).alloc (by omega) _), l2_gone hs z, fun h => by omega, by simp; omega⟩
theorem l2_made {w wr w1 : World} {n : Nat} {z : Nat → Nat} {b : Nat} (hb : Base w wr) (hs : wr.heap.size = w.heap.size + 7)
    (h : w1.ownsRow (w.heap.size + 8) 23 1 (.slice (some ⟨b, 0, none⟩) n n) n (madeCells (Value.pointer none).cells (n * 1)).toList)
    (hg : (wr.alloc (.cells #[.bool false, .bool false, .bool false, .bool false, .bool false, .bool false, .bool false] 36)).grownBy w1 none) :
    L2 w n z 0 (some ⟨b, 0, none⟩) b w1 := by
  have hB : Below (w.heap.size + 8) (wr.alloc (.cells #[.bool false, .bool false, .bool false, .bool false, .bool false, .bool false, .bool false] 36)) w1 :=
    ⟨hg.os, hg.tape, hg.output, hg.size, fun k hk => hg.block k (by simp; omega) (by simp)⟩
  have hsz := hg.size
  simp at hsz
  refine ⟨hb.step (((Below.refl _ wr).alloc (by omega) _).trans (hB.mono (by omega))), (hB.block _ (by omega)).trans (l2_gone hs z), fun _ => ?_, by omega⟩
  rcases h.2 with ⟨h', _⟩ | ⟨g, cap, cur, h', hbg, hgg, _, _, hcs, htake⟩
  · simp at h'
  · simp only [Value.slice.injEq, Option.some.injEq, Addr.mk.injEq, and_true, true_and] at h'
    obtain ⟨rfl, rfl⟩ := h'
    refine ⟨rfl, ?_, hbg⟩
    rw [hgg, rowc_zero]
    have e1 : cur.toList = List.replicate n (Value.pointer none) := by
      rw [List.take_of_length_le (by simp; omega)] at htake
      rw [htake, show (Value.pointer none).cells = #[Value.pointer none] from rfl, toList_madeCells_one, Nat.mul_one]
    rw [← e1]

theorem pick_int (pb : Nat) (kk : Int) (k : Nat) (e : kk = k) (L : Nat → Nat) (w : World) (hk : k ≤ 6) (hc : k < 6 → w.cell? ⟨pb, k, none⟩ = some (.pointer (some ⟨L k, 0, none⟩))) :
    Calls Yba.prog 5 #[.pointer (some ⟨pb, 0, none⟩), .int .i64 kk] w fun e w' => e = .returned (.pointer (ptr L k)) ∧ w = w' := by
  subst e; exact pick_any pb k L w hk hc
theorem Base.cell {w wr : World} (h : Base w wr) (k : Nat) (hk : k < 6) : wr.cell? ⟨w.heap.size, k, none⟩ = some (.pointer (some ⟨L w.heap.size k, 0, none⟩)) := by
  rw [cell_of_row _ _ _ _ _ _ h.pool]; simp [poolc, hk, L]
theorem l2_step {w wr : World} {n q : Nat} {z : Nat → Nat} {ao : Option Addr} {DB : Nat} (hq : q < n) (h : L2 w n z q ao DB wr) :
    L2 w n z (q + 1) ao DB ((wr.setCell ⟨w.heap.size + 7, z q % 7, none⟩ (.bool true)).setCell ⟨DB, q, none⟩ (.pointer (ptr (L w.heap.size) (z q % 7)))) := by
  obtain ⟨e, hr, hD⟩ := h.row (by omega)
  refine ⟨h.base.step (((Below.refl _ wr).setCell (by exact Nat.le_refl _) _).setCell (by show _ ≤ DB; omega) _), ?_, fun _ => ⟨e, ?_, hD⟩, by simp [World.setCell]; exact h.sz⟩
  · rw [heap_setCell_other _ _ _ _ (by show _ ≠ DB; omega), heap_setCell_same _ _ _ _ _ _ h.gone, ← gonec_set]
    simp
  · have h1 : (wr.setCell ⟨w.heap.size + 7, z q % 7, none⟩ (.bool true)).heap[DB]? = some (.cells (rowc w.heap.size z n q).toArray 23 (0, 0)) := by
      rw [heap_setCell_other _ _ _ _ (by show DB ≠ w.heap.size + 7; omega)]; exact hr
    rw [heap_setCell_same _ _ _ _ _ _ h1, ← rowc_set _ _ _ _ hq]
    simp
theorem l2_cells {w wr : World} {n q : Nat} {z : Nat → Nat} {ao : Option Addr} {DB : Nat} (hq : q < n) (h : L2 w n z q ao DB wr) :
    ao = some ⟨DB, 0, none⟩ ∧ (∃ b, wr.cell? ⟨w.heap.size + 7, z q % 7, none⟩ = some (.bool b)) ∧ wr.frozen? ⟨w.heap.size + 7, z q % 7, none⟩ = false ∧ (∃ p, wr.cell? ⟨DB, q, none⟩ = some (.pointer p)) ∧ wr.frozen? ⟨DB, q, none⟩ = false ∧ w.heap.size + 7 < DB := by
  obtain ⟨e, hr, hD⟩ := h.row (by omega)
  have h7 : z q % 7 < 7 := Nat.mod_lt _ (by omega)
  refine ⟨e, ⟨(List.range q).any fun j => decide (z j % 7 = z q % 7), ?_⟩, frozen_of_row _ _ _ _ _ h.gone, ⟨none, ?_⟩, frozen_of_row _ _ _ _ _ hr, by omega⟩
  · rw [cell_of_row _ _ _ _ _ _ h.gone]; simp [gonec, h7]
  · rw [cell_of_row _ _ _ _ _ _ hr]; simp [rowc, hq]

theorem L2.keep {w wr w' : World} {n q : Nat} {z : Nat → Nat} {ao : Option Addr} {DB : Nat} (h : L2 w n z q ao DB wr) (hb : Below wr.heap.size wr w') : L2 w n z q ao DB w' := by
  have hs := h.sz
  refine ⟨h.base.step (hb.mono (by omega)), (hb.block _ (by omega)).trans h.gone, fun h0 => ?_, Nat.le_trans hs hb.size⟩
  obtain ⟨e, hr, hD⟩ := h.row h0
  exact ⟨e, (hb.block _ (Array.getElem?_eq_some_iff.1 hr).1).trans hr, hD⟩
theorem l2_row {w wr : World} {n : Nat} {z : Nat → Nat} {ao : Option Addr} {DB : Nat} (h : L2 w n z n ao DB wr) : Row wr ao n DB (fun j => ptr (L w.heap.size) (z j % 7)) := fun h0 => by
  obtain ⟨e, hr, hD⟩ := h.row h0
  exact ⟨e, fun i hi => by rw [cell_of_row _ _ _ _ _ _ hr]; simp [rowc, hi]⟩

def goneK (z : Nat → Nat) (n t : Nat) : Bool := (List.range n).any fun j => decide (z j % 7 = t)
def wl (z0 z1 : Nat → Nat) (n1 q : Nat) : List Nat := ((List.range q).filter fun i => !goneK z1 n1 (z0 i % 7)).map fun i => z0 i % 7
def ints (l : List Nat) : List Value := l.map fun (k : Nat) => Value.int .i64 (k : Int)
theorem wl_succ (z0 z1 : Nat → Nat) (n1 q : Nat) : wl z0 z1 n1 (q + 1) = wl z0 z1 n1 q ++ (if goneK z1 n1 (z0 q % 7) then [] else [z0 q % 7]) := by
  unfold wl
  rw [List.range_succ, List.filter_append, List.map_append]
  congr 1
  cases h : goneK z1 n1 (z0 q % 7) <;> simp [h]
theorem wl_le (z0 z1 : Nat → Nat) (n1 q : Nat) : (wl z0 z1 n1 q).length ≤ q := by
  unfold wl
  rw [List.length_map]
  exact Nat.le_trans (List.length_filter_le _ _) (by simp)

/-- Behind q rounds of the loop over the session's list. -/
structure L3 (w W3 : World) (n0 : Nat) (z0 z1 : Nat → Nat) (n1 q : Nat) (ao : Option Addr) (v : Value) (wr : World) : Prop where
  bel : Below W3.heap.size W3 wr
  row : 0 < n0 → ao = some ⟨W3.heap.size, 0, none⟩ ∧ wr.heap[W3.heap.size]? = some (.cells (rowc w.heap.size z0 n0 q).toArray 23 (0, 0))
  want : wr.ownsRow (W3.heap.size + 1) 3 1 v (wl z0 z1 n1 q).length (ints (wl z0 z1 n1 q))
theorem l3_nil {w W3 : World} {z0 z1 : Nat → Nat} {n1 : Nat} (ao : Option Addr) : L3 w W3 0 z0 z1 n1 0 ao (.slice none 0 0) W3 :=
  ⟨Below.refl _ _, fun h => by omega, World.ownsRow_nil _ _ _ _⟩
theorem l3_made {w W3 w1 : World} {n0 n1 : Nat} {z0 z1 : Nat → Nat} (h : w1.ownsRow W3.heap.size 23 1 (.slice (some ⟨W3.heap.size, 0, none⟩) n0 n0) n0 (madeCells (Value.pointer none).cells (n0 * 1)).toList)
    (hg : W3.grownBy w1 none) : L3 w W3 n0 z0 z1 n1 0 (some ⟨W3.heap.size, 0, none⟩) (.slice none 0 0) w1 := by
  refine ⟨⟨hg.os, hg.tape, hg.output, hg.size, fun k hk => hg.block k hk (by simp)⟩, fun _ => ⟨rfl, ?_⟩, World.ownsRow_nil _ _ _ _⟩
  rcases h.2 with ⟨h', _⟩ | ⟨g, cap, cur, h', hbg, hgg, _, _, hcs, htake⟩
  · simp at h'
  · simp only [Value.slice.injEq, Option.some.injEq, Addr.mk.injEq, and_true, true_and] at h'
    obtain ⟨rfl, rfl⟩ := h'
    rw [hgg, rowc_zero]
    have e1 : cur.toList = List.replicate n0 (Value.pointer none) := by
      rw [List.take_of_length_le (by simp; omega)] at htake
      rw [htake, show (Value.pointer none).cells = #[Value.pointer none] from rfl, toList_madeCells_one, Nat.mul_one]
    rw [← e1]

theorem news_set (wr : World) (a : Addr) (u0 x : Value) : ∀ j u, [x][j]? = some u → ((wr.setCell a u0).alloc (.cells #[x] 3)).cell? ((⟨wr.heap.size, 0, none⟩ : Addr).add j) = some u := by
  have h := heap_alloc_new (wr.setCell a u0) (.cells #[x] 3)
  have e : (wr.setCell a u0).heap.size = wr.heap.size := by simp [World.setCell]
  rw [e] at h
  exact World.news_of_block h
theorem info3 : (Yba.prog.info? 3).map (fun i => (i.zero, i.size, i.bytes)) = some (some (.int .i64 0), 1, 8) := by kernel_rfl
theorem l3_gone {w W3 wr : World} {n : Nat} {z : Nat → Nat} {ao : Option Addr} {DB : Nat} (h : L2 w n z n ao DB W3) (hb : Below W3.heap.size W3 wr) {z0 : Nat → Nat} (p : Nat) :
    wr.cell? ⟨w.heap.size + 7, z0 p % 7, none⟩ = some (.bool (goneK z n (z0 p % 7))) := by
  have h7 : z0 p % 7 < 7 := Nat.mod_lt _ (by omega)
  have hs := h.sz
  rw [hb.cell (by show w.heap.size + 7 < W3.heap.size; omega), cell_of_row _ _ _ _ _ _ h.gone]
  simp [gonec, goneK, h7]
theorem l3_row {w W3 wr : World} {n0 n1 : Nat} {z0 z1 : Nat → Nat} {p : Nat} {ao : Option Addr} {v : Value} (hp : p < n0) (h : L3 w W3 n0 z0 z1 n1 p ao v wr) :
    (wr.setCell ⟨W3.heap.size, p, none⟩ (.pointer (ptr (L w.heap.size) (z0 p % 7)))).heap[W3.heap.size]? = some (.cells (rowc w.heap.size z0 n0 (p + 1)).toArray 23 (0, 0)) := by
  obtain ⟨e, hr⟩ := h.row (by omega)
  rw [heap_setCell_same _ _ _ _ _ _ hr, ← rowc_set _ _ _ _ hp]
  simp
theorem l3_step_gone {w W3 wr : World} {n0 n1 : Nat} {z0 z1 : Nat → Nat} {p : Nat} {ao : Option Addr} {v : Value} (hp : p < n0) (hg : goneK z1 n1 (z0 p % 7) = true) (h : L3 w W3 n0 z0 z1 n1 p ao v wr) :
    L3 w W3 n0 z0 z1 n1 (p + 1) ao v (wr.setCell ⟨W3.heap.size, p, none⟩ (.pointer (ptr (L w.heap.size) (z0 p % 7)))) := by
  refine ⟨h.bel.setCell (by exact Nat.le_refl _) _, fun h0 => ⟨(h.row h0).1, l3_row hp h⟩, ?_⟩
  rw [wl_succ, hg]
  simpa using ownsRow_setCell_below h.want (Nat.lt_succ_self _) _
theorem l3_step_keep {w W3 wr w1 : World} {n0 n1 : Nat} {z0 z1 : Nat → Nat} {p : Nat} {ao : Option Addr} {v v' : Value} {o : Obj} (hp : p < n0) (hg : goneK z1 n1 (z0 p % 7) = false) (h : L3 w W3 n0 z0 z1 n1 p ao v wr)
    (hown : w1.ownsRow (W3.heap.size + 1) 3 1 v' ((wl z0 z1 n1 p).length + 1) (ints (wl z0 z1 n1 p) ++ [.int .i64 ((z0 p : Int) % 7)]))
    (hgrow : ((wr.setCell ⟨W3.heap.size, p, none⟩ (.pointer (ptr (L w.heap.size) (z0 p % 7)))).alloc o).grownBy w1 v.ownBlock) :
    L3 w W3 n0 z0 z1 n1 (p + 1) ao v' w1 := by
  have hv := h.want.lt
  have hrw := l3_row hp h
  have hlt : W3.heap.size < wr.heap.size := by
    have := (Array.getElem?_eq_some_iff.1 hrw).1
    simpa [World.setCell] using this
  refine ⟨((h.bel.setCell (by exact Nat.le_refl _) _).alloc (by simp [World.setCell]; omega) o).grown hgrow (by simp [World.setCell]; omega) (fun k hk => by have := (hv k hk).1; omega), fun h0 => ⟨(h.row h0).1, ?_⟩, ?_⟩
  · rw [hgrow.block _ (by simp [World.setCell]; omega) (fun e => by have := (hv _ e.symm).1; omega), heap_alloc_old (h := by simp [World.setCell]; omega)]
    exact hrw
  · rw [wl_succ, hg]
    have e : ints (wl z0 z1 n1 p ++ [z0 p % 7]) = ints (wl z0 z1 n1 p) ++ [.int .i64 ((z0 p : Int) % 7)] := by simp [ints]
    simp only [Bool.false_eq_true, if_false, List.length_append, List.length_singleton]
    rw [e]; exact hown


theorem owns_below {w w' : World} {base e size n : Nat} {v : Value} {xs : List Value} (h : w.ownsRow base e size v n xs) (hb : Below w.heap.size w w') : w'.ownsRow base e size v n xs :=
  h.kept (row := none) ⟨hb.os, hb.tape, hb.output, hb.size, fun k hk _ => hb.block k hk⟩ (by cases v.ownBlock <;> simp)
theorem l3_rowOf {w W3 wr : World} {n0 n1 : Nat} {z0 z1 : Nat → Nat} {ao : Option Addr} {v : Value} (h : L3 w W3 n0 z0 z1 n1 n0 ao v wr) : Row wr ao n0 W3.heap.size (fun j => ptr (L w.heap.size) (z0 j % 7)) := fun h0 => by
  obtain ⟨e, hr⟩ := h.row h0
  exact ⟨e, fun i hi => by rw [cell_of_row _ _ _ _ _ _ hr]; simp [rowc, hi]⟩
theorem Row.below {w w' : World} {ao : Option Addr} {n b : Nat} {P : Nat → Option Addr} (h : Row w ao n b P) (hb : Below w.heap.size w w') : Row w' ao n b P := fun h0 => by
  obtain ⟨e, hc⟩ := h h0
  exact ⟨e, fun i hi => (hb.cell (World.block_lt_of_cell? _ _ (hc i hi))).trans (hc i hi)⟩
theorem Row.alloc {w : World} {ao : Option Addr} {n b : Nat} {P : Nat → Option Addr} (h : Row w ao n b P) (o : Obj) : Row (w.alloc o) ao n b P := h.below ((Below.refl _ w).alloc (Nat.le_refl _) o)
theorem Live.alloc {w : World} {p : Option Addr} (h : Live w p) (o : Obj) : Live (w.alloc o) p := h.below ((Below.refl _ w).alloc (Nat.le_refl _) o) h.lt
theorem live_ptr {w wr : World} (h : Base w wr) (k : Nat) (hk : k < 7) : Live wr (ptr (L w.heap.size) k) := by
  intro a ha
  unfold ptr at ha
  split at ha
  · cases ha
  · obtain rfl := Option.some.inj ha
    exact ⟨_, _, h.legs k (by omega)⟩

/-- All that stands behind the session's clone. -/
structure Fin (w wr : World) (A B C : Nat) (n0 n1 : Nat) (z0 z1 : Nat → Nat) (aS aD : Option Addr) (DB : Nat) (v18 v16 v22 : Value) : Prop where
  base : Base w wr
  rowD : Row wr aD n1 DB (fun j => ptr (L w.heap.size) (z1 j % 7))
  rowS : Row wr aS n0 B (fun j => ptr (L w.heap.size) (z0 j % 7))
  want : wr.ownsRow (B + 1) 3 1 v18 (wl z0 z1 n1 n0).length (ints (wl z0 z1 n1 n0))
  dupD : wr.ownsRow A 23 1 v16 n1 (pcells (fun j => ptr (L w.heap.size) (z1 j % 7)) n1)
  dupS : wr.ownsRow C 23 1 v22 n0 (pcells (fun j => ptr (L w.heap.size) (z0 j % 7)) n0)
theorem Fin.below {w wr w' : World} {A B C n0 n1 : Nat} {z0 z1 : Nat → Nat} {aS aD : Option Addr} {DB : Nat} {v18 v16 v22 : Value} (h : Fin w wr A B C n0 n1 z0 z1 aS aD DB v18 v16 v22) (hb : Below wr.heap.size wr w') : Fin w w' A B C n0 n1 z0 z1 aS aD DB v18 v16 v22 :=
  ⟨h.base.step (hb.mono h.base.sz), h.rowD.below hb, h.rowS.below hb, owns_below h.want hb, owns_below h.dupD hb, owns_below h.dupS hb⟩
theorem fin_mk {w W2 W3 W4 W5 : World} {n0 n1 : Nat} {z0 z1 : Nat → Nat} {aS aD : Option Addr} {DB : Nat} {v18 v16 v22 : Value}
    (h2 : L2 w n1 z1 n1 aD DB W3) (h16 : W3.ownsRow W2.heap.size 23 1 v16 n1 (pcells (fun j => ptr (L w.heap.size) (z1 j % 7)) n1)) (h4 : L3 w W3 n0 z0 z1 n1 n0 aS v18 W4)
    (hb : Below W4.heap.size W4 W5) (h22 : W5.ownsRow W4.heap.size 23 1 v22 n0 (pcells (fun j => ptr (L w.heap.size) (z0 j % 7)) n0)) :
    Fin w W5 W2.heap.size W3.heap.size W4.heap.size n0 n1 z0 z1 aS aD DB v18 v16 v22 := by
  have h4b := h4.bel
  refine ⟨(h2.base.step (h4b.mono (by have := h2.sz; omega))).step (hb.mono (by have := h2.sz; have := h4b.size; omega)), ((l2_row h2).below h4b).below hb, (l3_rowOf h4).below hb, owns_below h4.want hb, owns_below (owns_below h16 h4b) hb, h22⟩

theorem after_drop {w W5 wx : World} {A B C n0 n1 : Nat} {z0 z1 : Nat → Nat} {aS aD : Option Addr} {DB : Nat} {v18 v16 v22 x0 x1 x2 x3 v : Value} {n : Nat} {K : List Value}
    (h : Fin w W5 A B C n0 n1 z0 z1 aS aD DB v18 v16 v22) (hb : Below (W5.alloc (.cells #[x0, x1, x2, x3] 46)).heap.size (W5.alloc (.cells #[x0, x1, x2, x3] 46)) wx)
    (ho : wx.ownsRow (W5.alloc (.cells #[x0, x1, x2, x3] 46)).heap.size 23 1 v n K) :
    Fin w (wx.setCell ⟨W5.heap.size, 3, none⟩ v) A B C n0 n1 z0 z1 aS aD DB v18 v16 v22 ∧
      (wx.setCell ⟨W5.heap.size, 3, none⟩ v).cell? ⟨W5.heap.size, 0, none⟩ = some x0 ∧ (wx.setCell ⟨W5.heap.size, 3, none⟩ v).cell? ⟨W5.heap.size, 1, none⟩ = some x1 ∧
      (wx.setCell ⟨W5.heap.size, 3, none⟩ v).cell? ⟨W5.heap.size, 2, none⟩ = some x2 ∧ (wx.setCell ⟨W5.heap.size, 3, none⟩ v).cell? ⟨W5.heap.size, 3, none⟩ = some v ∧
      (wx.setCell ⟨W5.heap.size, 3, none⟩ v).ownsRow (W5.heap.size + 1) 23 1 v n K := by
  have hs : (W5.alloc (.cells #[x0, x1, x2, x3] 46)).heap.size = W5.heap.size + 1 := by simp
  have hblk : wx.heap[W5.heap.size]? = some (.cells #[x0, x1, x2, x3] 46 (0, 0)) := by
    rw [hb.block _ (by omega)]; exact heap_alloc_new W5 _
  have hset := heap_setCell_same wx W5.heap.size 3 _ 46 v hblk
  refine ⟨h.below ((((Below.refl _ W5).alloc (Nat.le_refl _) _).trans (hb.mono (by omega))).setCell (by exact Nat.le_refl _) _), ?_, ?_, ?_, ?_, ?_⟩
  · rw [cell_of_row _ _ _ _ _ _ hset]; rfl
  · rw [cell_of_row _ _ _ _ _ _ hset]; rfl
  · rw [cell_of_row _ _ _ _ _ _ hset]; rfl
  · rw [cell_of_row _ _ _ _ _ _ hset]; rfl
  · rw [hs] at ho
    exact ownsRow_setCell_below ho (Nat.lt_succ_self _) _

theorem ptr_inj (B a b : Nat) (_ha : a < 7) (_hb : b < 7) : (ptr (L B) a = ptr (L B) b) = (a = b) := by
  apply propext
  constructor
  · intro h
    unfold ptr at h
    split at h <;> split at h
    · omega
    · cases h
    · cases h
    · have := Option.some.inj h
      simp [L] at this
      exact this
  · rintro rfl; rfl
theorem gone_eq (B : Nat) (z0 z1 : Nat → Nat) (m i : Nat) : gone (fun j => ptr (L B) (z0 j % 7)) (fun j => ptr (L B) (z1 j % 7)) m i = goneK z1 m (z0 i % 7) := by
  unfold gone goneK
  congr 1
  funext j
  simp only [ptr_inj B _ _ (Nat.mod_lt _ (by omega : 7 > 0)) (Nat.mod_lt _ (by omega : 7 > 0))]
theorem keep_eq (B : Nat) (z0 z1 : Nat → Nat) (m n : Nat) : keep (fun j => ptr (L B) (z0 j % 7)) (fun j => ptr (L B) (z1 j % 7)) m n = (wl z0 z1 m n).map fun k => .pointer (ptr (L B) k) := by
  unfold keep wl
  rw [List.map_map]
  simp only [gone_eq]
  rfl
theorem own_form {w : World} {base e n : Nat} {v : Value} {xs : List Value} (hx : xs.length = n) (h : w.ownsRow base e 1 v n xs) :
    ∃ ao g cap, v = .slice ao n cap ∧ (0 < n → ao = some ⟨g, 0, none⟩ ∧ ∀ i, i < n → w.cell? ⟨g, i, none⟩ = xs[i]?) := by
  rcases h.2 with ⟨h', rfl, _⟩ | ⟨g, cap, cur, h', hbg, hgg, _, _, hcs, htake⟩
  · exact ⟨none, 0, 0, h', fun hp => by omega⟩
  · refine ⟨_, g, cap, h', fun _ => ⟨rfl, fun i hi => ?_⟩⟩
    rw [cell_of_row _ _ _ _ _ _ hgg, ← htake]
    rw [List.getElem?_take_of_lt (by omega)]
    simp
theorem own_row {w : World} {base n : Nat} {v : Value} {P : Nat → Option Addr} (h : w.ownsRow base 23 1 v n (pcells P n)) : ∃ ao g cap, v = .slice ao n cap ∧ Row w ao n g P := by
  obtain ⟨ao, g, cap, hv, hc⟩ := own_form (pcells_len _ _) h
  exact ⟨ao, g, cap, hv, fun h0 => ⟨(hc h0).1, fun i hi => by rw [(hc h0).2 i hi]; simp [pcells, hi]⟩⟩
theorem fin_facts {w W7 : World} {A B C n0 n1 : Nat} {z0 z1 : Nat → Nat} {aS aD : Option Addr} {DB D : Nat} {v18 v16 v22 v : Value} (h : Fin w W7 A B C n0 n1 z0 z1 aS aD DB v18 v16 v22)
    (ho : W7.ownsRow D 23 1 v (keep (fun j => ptr (L w.heap.size) (z0 j % 7)) (fun j => ptr (L w.heap.size) (z1 j % 7)) n1 n0).length (keep (fun j => ptr (L w.heap.size) (z0 j % 7)) (fun j => ptr (L w.heap.size) (z1 j % 7)) n1 n0))
    (hn : keep (fun j => ptr (L w.heap.size) (z0 j % 7)) (fun j => ptr (L w.heap.size) (z1 j % 7)) n1 n0 = [] → v = .slice none 0 0) :
    ∃ (m : Nat) (f : Nat → Nat) (wo : Option Addr) (wg wc : Nat) (vo : Option Addr) (vg vc : Nat), m ≤ n0 ∧ v18 = .slice wo m wc ∧ v = .slice vo m vc ∧ (m = 0 → vo = none) ∧
      (0 < m → wo = some ⟨wg, 0, none⟩ ∧ ∀ t, t < m → W7.cell? ⟨wg, t, none⟩ = some (.int .i64 (f t : Int))) ∧ Row W7 vo m vg (fun t => ptr (L w.heap.size) (f t)) ∧ ∀ t, t < m → f t < 7 := by
  rw [keep_eq] at ho hn
  obtain ⟨wo, wg, wc, hw, hwc⟩ := own_form (by simp [ints]) h.want
  obtain ⟨vo, vg, vc, hv, hvc⟩ := own_form rfl ho
  simp only [List.length_map] at hv hvc
  refine ⟨(wl z0 z1 n1 n0).length, fun t => (wl z0 z1 n1 n0).getD t 0, wo, wg, wc, vo, vg, vc, wl_le _ _ _ _, hw, hv, fun h0 => ?_, fun h0 => ⟨(hwc h0).1, fun t ht => ?_⟩, fun h0 => ⟨(hvc h0).1, fun t ht => ?_⟩, fun t ht => ?_⟩
  · have e := hn (by rw [List.length_eq_zero_iff.1 h0]; rfl)
    rw [hv] at e
    simp at e
    exact e.1
  · rw [(hwc h0).2 t ht]; simp [ints, List.getD, List.getElem?_eq_getElem ht]
  · rw [(hvc h0).2 t ht]; simp [List.getD, List.getElem?_eq_getElem ht]
  · simp only [List.getD, List.getElem?_eq_getElem ht, Option.getD_some]
    have := List.getElem_mem ht
    unfold wl at this
    obtain ⟨i, _, e⟩ := List.mem_map.1 this
    have e' : (wl z0 z1 n1 n0)[t] = z0 i % 7 := e.symm
    rw [e']
    exact Nat.mod_lt _ (by omega)
end Go.Proofs.Ybulkdmwm.Legs
