import Derived.Test.YbulkdmwmStat
import Derived.Laws.CopyOwn
import Derived.Deep.QuietTactic
import Derived.BigQuiet
namespace Go.Proofs.Ybulkdmwm
open Go.ChangeShapes Go.WideShapes Go.ChangeAt Go.RowKit
set_option linter.unusedSimpArgs false

theorem info9 : (Yba.prog.info? 9).map (fun i => (i.zero, i.size, i.bytes)) = some (some (.string ⟨#[]⟩), 1, 16) := by kernel_rfl
theorem size9 : (Yba.prog.info? 9).map (·.size) = some 1 := by kernel_rfl

/-- The strings of a slice, as cells. -/
def scells (nm : Nat → ByteArray) (n : Nat) : List Value := (List.range n).map fun i => .string (nm i)
theorem scells_get (nm : Nat → ByteArray) (n j : Nat) (v : Value) (h : (scells nm n)[j]? = some v) : j < n ∧ v = .string (nm j) := by
  have hj : j < n := by have := (List.getElem?_eq_some_iff.1 h).1; simpa [scells] using this
  simp [scells, hj] at h
  exact ⟨hj, h.symm⟩
theorem scells_len (nm : Nat → ByteArray) (n : Nat) : (scells nm n).length = n := by simp [scells]
theorem scells_one (nm : Nat → ByteArray) (n : Nat) : ∀ u ∈ scells nm n, u.oneCell' = true := by
  intro u hu; obtain ⟨i, _, rfl⟩ := List.mem_map.1 hu; rfl

theorem made_row {w w1 : World} {n : Nat} (h : w1.ownsRow w.heap.size 9 1 (.slice (some ⟨w.heap.size, 0, none⟩) n n) n (madeCells (Value.string ⟨#[]⟩).cells (n * 1)).toList) (hg : w.grownBy w1 none) :
    Hid (w1.heap[w.heap.size]? = some (.cells (List.replicate n (Value.string ⟨#[]⟩)).toArray 9 (0, 0))) ∧ Below w.heap.size w w1 ∧ w.heap.size < w1.heap.size := by
  have hB : Below w.heap.size w w1 := ⟨hg.os, hg.tape, hg.output, hg.size, fun k hk => hg.block k hk (by simp)⟩
  rcases h.2 with ⟨h', _⟩ | ⟨g, cap, cur, h', _, hgg, _, _, hcs, htake⟩
  · simp at h'
  · simp only [Value.slice.injEq, Option.some.injEq, Addr.mk.injEq, and_true, true_and] at h'
    obtain ⟨rfl, rfl⟩ := h'
    refine ⟨?_, hB, (Array.getElem?_eq_some_iff.1 hgg).1⟩
    unfold Hid
    rw [hgg]
    have e1 : cur.toList = List.replicate n (Value.string ⟨#[]⟩) := by
      rw [List.take_of_length_le (by simp; omega)] at htake
      rw [htake, show (Value.string ⟨#[]⟩).cells = #[Value.string ⟨#[]⟩] from rfl, toList_madeCells_one, Nat.mul_one]
    rw [← e1]

theorem copy_run {w w1 : World} {x : Addr} {n c nb no : Nat} {nm : Nat → ByteArray} (ha : 0 < n → some x = some ⟨nb, no, none⟩ ∧ nb < w.heap.size ∧ ∀ i, i < n → w.cell? ⟨nb, no + i, none⟩ = some (.string (nm i)))
    (hr : w1.heap[w.heap.size]? = some (.cells (List.replicate n (Value.string ⟨#[]⟩)).toArray 9 (0, 0))) (hb : Below w.heap.size w w1) (hs : w.heap.size < w1.heap.size) :
    ∃ w2, Sem.run Yba.prog (Builtin.copy_ #[50, 50] 3 #[.slice (some ⟨w.heap.size, 0, none⟩) n n, .slice (some x) n c]) w1 = .ok (goInt n) w2 ∧
      Hid (w2.heap[w.heap.size]? = some (.cells (scells nm n).toArray 9 (0, 0))) ∧ Below w.heap.size w w2 ∧ w.heap.size < w2.heap.size := by
  by_cases h0 : n = 0
  · subst h0
    refine ⟨w1, run_copy_none (P := Yba.prog) w1 50 50 3 9 _ _ 0 0 0 c Yba.underlying50 size9 rfl, ?_, hb, hs⟩
    unfold Hid; rw [hr]; rfl
  · obtain ⟨e, hl, hc⟩ := ha (by omega)
    obtain rfl := Option.some.inj e
    have hrun := run_copy_row (P := Yba.prog) w1 50 50 3 9 w.heap.size 0 n n ⟨nb, no, none⟩ n c _ 9 (scells nm n) Yba.underlying50 size9 hr (by rw [scells_len]; simp) (fun j v hv => by
      obtain ⟨hj, rfl⟩ := scells_get nm n j v hv
      rw [Addr.add_lit, hb.cell (by exact hl)]
      exact hc j hj) (by simp [scells_len]) (scells_one nm n)
    rw [scells_len] at hrun
    refine ⟨_, hrun, ?_, below_setRow hb (Nat.le_refl _) _, by simpa [World.setRow] using hs⟩
    unfold Hid
    rw [setRow_heap w1 _ _ _ 9 _ hr]
    simp

theorem below_drewN {B : Nat} {a w : World} (h : Below B a w) (m : Nat) : Below B a (w.drewN m) := ⟨h.os, h.tape, h.output, h.size, h.block⟩
theorem after_call {w w2 w3 : World} {o1 o2 o3 : Obj} {B : Nat} (hb2 : Below w.heap.size w w2) (hr2 : w2.heap[B]? = some o3) (hs2 : w.heap.size < w2.heap.size)
    (hb3 : Below ((w2.alloc o1).alloc o2).heap.size ((w2.alloc o1).alloc o2) w3) : Below w.heap.size w w3 ∧ w3.heap[B]? = some o3 ∧ w2.heap.size + 1 + 1 ≤ w3.heap.size := by
  have hs := hb3.size
  simp at hs
  have hB : B < w2.heap.size := (Array.getElem?_eq_some_iff.1 hr2).1
  have h1 : Below w.heap.size w ((w2.alloc o1).alloc o2) := (hb2.alloc (by omega) _).alloc (by simp; omega) _
  refine ⟨h1.trans (hb3.mono (by simp; omega)), ?_, hs⟩
  rw [hb3.block B (by simp; omega), heap_alloc_old (h := by simp; omega), heap_alloc_old (h := hB)]
  exact hr2

theorem par_get (vals : Bool) (nm : Nat → ByteArray) (g : Nat → Nat) (k i c : Nat) (hi : i < k) (hc : c < 4) :
    ((List.range k).flatMap fun i => par vals (nm i) (g i))[i * 4 + c]? = (par vals (nm i) (g i))[c]? := by
  have len : ∀ k, ((List.range k).flatMap fun i => par vals (nm i) (g i)).length = k * 4 := by
    intro k
    induction k with
    | zero => rfl
    | succ k ih => rw [List.range_succ, List.flatMap_append, List.length_append, ih]; simp [par_len]; omega
  induction k with
  | zero => omega
  | succ k ih =>
    rw [List.range_succ, List.flatMap_append]
    by_cases e : i = k
    · subst e
      rw [List.getElem?_append_right (by rw [len]; omega), len]
      simp [show i * 4 + c - i * 4 = c by omega]
    · rw [List.getElem?_append_left (by rw [len]; omega)]
      exact ih (by omega)

theorem sl_cells {B sb : Nat} {vals : Bool} {nm : Nat → ByteArray} {n G cap : Nat} {xs : List Value} {g : Nat → Nat} {w : World} (h : SL B sb vals nm n (.slice (some ⟨G, 0, none⟩) n cap) xs g w) (i : Nat) (hi : i < n) :
    w.cell? ⟨G, i * 4, none⟩ = some (.string (nm i)) ∧ w.cell? ⟨G, i * 4 + 1, none⟩ = some (.int .u8 (if vals then 1 else 0)) ∧ w.cell? ⟨G, i * 4 + 2, none⟩ = some (.int .u8 0) ∧
    w.cell? ⟨G, i * 4 + 3, none⟩ = some (if vals then .slice (some ⟨g i, 0, none⟩) 1 1 else .slice none 0 0) := by
  have at' : ∀ c, c < 4 → w.cell? ⟨G, i * 4 + c, none⟩ = (par vals (nm i) (g i))[c]? := fun c hc => by
    rw [h.own.cellAt _ (by omega), h.cells, par_get _ _ _ _ _ _ hi hc]
  have h0 := at' 0 (by omega)
  have h1 := at' 1 (by omega)
  have h2 := at' 2 (by omega)
  have h3 := at' 3 (by omega)
  unfold par at h0 h1 h2 h3
  cases vals <;> exact ⟨h0, h1, h2, h3⟩

set_option maxRecDepth 100000 in
set_option maxHeartbeats 1000000 in
theorem law_some (x : Addr) (n c nb no : Nat) (vals : Bool) (nm : Nat → ByteArray) (w : World) (hn : n ≤ 1048576)
    (ha : Hid (0 < n → some x = some ⟨nb, no, none⟩ ∧ nb < w.heap.size ∧ ∀ i, i < n → w.cell? ⟨nb, no + i, none⟩ = some (.string (nm i)))) :
    Calls Yba.prog 4 #[.slice (some x) n c, .bool vals] w fun e w' => e = .returned (.bool true) ∧ Below w.heap.size w w' := by
  obtain ⟨i0, hi, hz0, hz1, hz2⟩ := info_parts info9
  have HI : Hid (_ ∧ _ ∧ _ ∧ _) := ⟨hi, hz0, hz1, hz2⟩
  have hby : Hid (i0.bytes * n ≤ 281474976710656) := by unfold Hid; rw [hz2]; omega
  clear hi hz0 hz1 hz2
  have nq50 := fun (w : World) (a : Option Addr) (n c n' c' : Nat) => run_neq_slice_nil_any (P := Yba.prog) w 50 9 a n c n' c' Yba.underlying50
  have eq50 := fun (w : World) (a : Option Addr) (n c n' c' : Nat) => Lib.run_eql_slice_nil (P := Yba.prog) w 50 9 a n c n' c' Yba.underlying50
  have eq69 := fun (w : World) (a : Option Addr) (n c n' c' : Nat) => Lib.run_eql_slice_nil (P := Yba.prog) w 69 75 a n c n' c' Yba.underlying69
  go_enter Yba.func4, Yba.ntmps4
  go_wp2_with (first
    | (at_make; refine wpList_make_full _ (by rfl) (.tmp 18) (.tmp 18) 50 (by rfl) w.heap.size 9 i0 (.string ⟨#[]⟩) 1 Yba.underlying50 HI.out.1 HI.out.2.1 HI.out.2.2.1 .i64 .i64 (n : Int) (n : Int) n (by rfl) (by rfl) (by rfl) (by rfl) hby.out (by unfold maxLen; omega) (Nat.le_refl _) ?_; intro w1 hown1 hgrow1; obtain ⟨hr1, hb1, hs1⟩ := made_row hown1 hgrow1; clear hown1 hgrow1)
    | fail)
  obtain ⟨w2, hrun, hr2, hb2, hs2⟩ := copy_run (c := c) ha.out hr1.out hb1 hs1
  rw [hrun]
  clear hrun hr1 hb1 hs1 w1
  go_wp2_with fail
  refine (statistics_any (w2.heap.size + 1) w2.heap.size nb no n c (some x) vals nm _ ?_ ?_ hn ?_).mono ?_
  · simp
  · simp
  · intro h0
    obtain ⟨e, hl, hc⟩ := ha.out h0
    refine ⟨e, by simp; omega, fun i hi => ?_⟩
    have h1 : Below w.heap.size w w2 := hb2
    rw [Below.cell (((Below.refl w.heap.size w2).alloc (by omega) _).alloc (by simp; omega) _) (by exact hl), hb2.cell (by exact hl)]
    exact hc i hi
  rintro e w3 ⟨rfl, hb3, hsl⟩
  obtain ⟨hbel, hr3, hs3⟩ := after_call hb2 hr2.out hs2 hb3
  simp only [World.size_alloc] at hsl ⊢
  clear hb3 hr2
  have hn0 : (0 : Int) ≤ (n : Int) := by omega
  obtain ⟨v, xs, g, hSL⟩ := hsl
  have HSL : Hid (SL (w2.heap.size + 1 + 1 + 1) (w2.heap.size + 1 + 1) vals nm n v xs g w3) := hSL
  have HR : Hid (w3.heap[w.heap.size]? = some (Obj.cells (scells nm n).toArray 9)) := hr3
  have hcv : w3.cell? ⟨w2.heap.size + 1 + 1, 0, none⟩ = some v := by rw [cell_of_row _ _ _ _ _ _ hSL.box]; rfl
  clear hSL hr3 HI hby
  go_wp2
  go_loopw [8] (fun i wr => ∃ k m : Nat, k ≤ n ∧ i = .int .i64 k ∧ wr = w3.drewN m) (fun i _ => n - (intOf i).toNat)
  case atStart => exact ⟨0, 0, Nat.zero_le _, rfl, rfl⟩
  case round =>
    obtain ⟨k, m, hk, rfl, rfl⟩ := hrel
    by_cases hlt : k < n
    · obtain ⟨rfl, hnb, hcs⟩ := by simpa using ha.out (by omega)
      have hc1 : w3.cell? ⟨nb, no + k, none⟩ = some (.string (nm k)) := (hbel.cell (by exact hnb)).trans (hcs k hlt)
      have hc2 : w3.cell? ⟨w.heap.size, k, none⟩ = some (.string (nm k)) := by rw [cell_of_row _ _ _ _ _ _ HR.out]; simp [scells, hlt]
      have hk0 : (0 : Int) ≤ (k : Int) := by omega
      have hkn : (k : Int) < (n : Int) := by omega
      clear hcs
      go_wp2
      go_quiet (fail)
      go_wp2
      go_roundw
      case rel => exact ⟨k + 1, _, by omega, by go_num, rfl⟩
      case measure => simp [intOf]; omega
    · obtain rfl : k = n := by omega
      by_cases h0 : k = 0
      · subst h0
        obtain rfl := HSL.out.nil rfl
        go_wp2
        go_ret
        exact ⟨rfl, below_drewN hbel _⟩
      · have hpos : (k == 0) = false := by simpa using h0
        obtain ⟨G, cap, rfl, hG1, hG2⟩ := HSL.out.own.form (by omega)
        obtain ⟨rfl, hnb, hcs⟩ := by simpa using ha.out (by omega)
        clear hcs
        cases vals
        · go_wp2
          go_loopw [9] (fun i wr => ∃ q : Nat, q ≤ k ∧ i = .int .i64 q ∧ Below w3.heap.size w3 wr) (fun i _ => k - (intOf i).toNat)
          case atStart => exact ⟨0, Nat.zero_le _, rfl, below_drewN (Below.refl _ _) _⟩
          case round =>
            obtain ⟨q, hq, rfl, hb⟩ := hrel
            have hcv' : wr.cell? ⟨w2.heap.size + 1 + 1, 0, none⟩ = some (.slice (some ⟨G, 0, none⟩) k cap) := by rw [hb.cell (World.block_lt_of_cell? _ _ hcv)]; exact hcv
            by_cases hlt : q < k
            · obtain ⟨c0, c1, c2, c3⟩ := sl_cells HSL.out q hlt
              rw [← hb.cell (by exact hG2)] at c0 c1 c2 c3
              simp only [if_true, Bool.false_eq_true, if_false] at c1 c3
              have hc2 : wr.cell? ⟨w.heap.size, q, none⟩ = some (.string (nm q)) := by rw [hb.cell (Nat.lt_of_lt_of_le hs2 (by omega)), cell_of_row _ _ _ _ _ _ HR.out]; simp [scells, hlt]
              have hcA := fun o => cell_alloc hc2 o
              have hk0 : (0 : Int) ≤ (q : Int) := by omega
              have hkn : (q : Int) < (k : Int) := by omega
              go_wp2
              go_quiet (fail)
              go_wp2
              go_roundw
              case rel => exact ⟨q + 1, by omega, by go_num, below_drewN (hb.alloc hb.size _) _⟩
              case measure => simp [intOf]; omega
            · obtain rfl : q = k := by omega
              go_wp2
              go_ret
              exact ⟨rfl, hbel.trans (hb.mono hbel.size)⟩
        · go_wp2
          go_loopw [9] (fun i wr => ∃ q : Nat, q ≤ k ∧ i = .int .i64 q ∧ Below w3.heap.size w3 wr) (fun i _ => k - (intOf i).toNat)
          case atStart => exact ⟨0, Nat.zero_le _, rfl, below_drewN (Below.refl _ _) _⟩
          case round =>
            obtain ⟨q, hq, rfl, hb⟩ := hrel
            have hcv' : wr.cell? ⟨w2.heap.size + 1 + 1, 0, none⟩ = some (.slice (some ⟨G, 0, none⟩) k cap) := by rw [hb.cell (World.block_lt_of_cell? _ _ hcv)]; exact hcv
            by_cases hlt : q < k
            · obtain ⟨c0, c1, c2, c3⟩ := sl_cells HSL.out q hlt
              rw [← hb.cell (by exact hG2)] at c0 c1 c2 c3
              simp only [if_true, Bool.false_eq_true, if_false] at c1 c3
              have hc2 : wr.cell? ⟨w.heap.size, q, none⟩ = some (.string (nm q)) := by rw [hb.cell (Nat.lt_of_lt_of_le hs2 (by omega)), cell_of_row _ _ _ _ _ _ HR.out]; simp [scells, hlt]
              have hcA := fun o => cell_alloc hc2 o
              have ct : wr.cell? ⟨g q, 0, none⟩ = some (.string ⟨#[48]⟩) := by rw [hb.cell (HSL.out.lt q hlt), cell_of_row _ _ _ _ _ _ (HSL.out.text rfl q hlt)]; rfl
              have ctA := fun o => cell_alloc ct o
              have hk0 : (0 : Int) ≤ (q : Int) := by omega
              have hkn : (q : Int) < (k : Int) := by omega
              go_wp2
              go_quiet (fail)
              go_wp2
              go_roundw
              case rel => exact ⟨q + 1, by omega, by go_num, below_drewN (hb.alloc hb.size _) _⟩
              case measure => simp [intOf]; omega
            · obtain rfl : q = k := by omega
              by_cases h2 : 2 ≤ q
              · have h2' : (2 : Int) ≤ (q : Int) := by omega
                obtain ⟨_, _, _, c3⟩ := sl_cells HSL.out 0 (by omega)
                obtain ⟨_, _, _, d3⟩ := sl_cells HSL.out 1 (by omega)
                have t0 := HSL.out.text rfl 0 (by omega)
                have t1 := HSL.out.text rfl 1 (by omega)
                have l0 := HSL.out.lt 0 (by omega)
                have l1 := HSL.out.lt 1 (by omega)
                have lo0 := HSL.out.lo 0 (by omega)
                have ne0 := HSL.out.ne 0 (by omega)
                have inj := HSL.out.inj 0 1 (by omega) (by omega)
                have hwB := hbel.size
                clear HSL
                generalize g 0 = A at *
                generalize g 1 = B at *
                simp only [if_true, Value.ownBlock, ne_eq, Option.some.injEq, Nat.zero_mul, Nat.zero_add, Nat.one_mul, Nat.reduceAdd] at c3 d3 ne0
                have e0 : wr.cell? ⟨A, 0, none⟩ = some (.string ⟨#[48]⟩) := by rw [hb.cell (by exact l0), cell_of_row _ _ _ _ _ _ t0]; rfl
                have f0 : wr.frozen? ⟨A, 0, none⟩ = false := by rw [hb.frozen (by exact l0)]; exact frozen_of_row _ _ _ _ _ t0
                have e1 : wr.cell? ⟨B, 0, none⟩ = some (.string ⟨#[48]⟩) := by rw [hb.cell (by exact l1), cell_of_row _ _ _ _ _ _ t1]; rfl
                rw [← hb.cell (by exact hG2)] at c3 d3
                have n1 : ¬ A = w2.heap.size + 1 + 1 := by omega
                have n2 : ¬ A = G := fun e => ne0 e.symm
                have n3 : ¬ A = B := inj
                have hA : w.heap.size ≤ A := by omega
                clear t0 t1 ne0 inj
                go_wp2
                go_ret
                exact ⟨rfl, (hbel.trans (hb.mono hbel.size)).setCell (by exact hA) _⟩
              · have h2' : ¬ (2 : Int) ≤ (q : Int) := by omega
                go_wp2
                go_ret
                exact ⟨rfl, hbel.trans (hb.mono hbel.size)⟩

set_option maxRecDepth 100000 in
set_option maxHeartbeats 1000000 in
theorem law_nil (vals : Bool) (w : World) :
    Calls Yba.prog 4 #[.slice none 0 0, .bool vals] w fun e w' => e = .returned (.bool true) ∧ Below w.heap.size w w' := by
  have nq50 := fun (w : World) (a : Option Addr) (n c n' c' : Nat) => run_neq_slice_nil_any (P := Yba.prog) w 50 9 a n c n' c' Yba.underlying50
  have eq50 := fun (w : World) (a : Option Addr) (n c n' c' : Nat) => Lib.run_eql_slice_nil (P := Yba.prog) w 50 9 a n c n' c' Yba.underlying50
  have eq69 := fun (w : World) (a : Option Addr) (n c n' c' : Nat) => Lib.run_eql_slice_nil (P := Yba.prog) w 69 75 a n c n' c' Yba.underlying69
  go_enter Yba.func4, Yba.ntmps4
  go_wp2_with fail
  refine (statistics_any (w.heap.size + 1) w.heap.size 0 0 0 0 none vals (fun _ => ⟨#[]⟩) _ ?_ ?_ (by omega) ?_).mono ?_
  · simp
  · simp
  · intro h0; omega
  rintro e w3 ⟨rfl, hb3, v, xs, g, hSL⟩
  have hbel : Below w.heap.size w w3 := (((Below.refl _ w).alloc (Nat.le_refl _) _).alloc (by simp) _).trans (hb3.mono (by simp; omega))
  obtain rfl := hSL.nil rfl
  have hcv : w3.cell? ⟨w.heap.size + 1 + 1, 0, none⟩ = some (.slice none 0 0) := by
    have := hSL.box
    simp only [World.size_alloc] at this
    rw [cell_of_row _ _ _ _ _ _ this]; rfl
  clear hb3 hSL
  simp only [World.size_alloc]
  go_wp2
  go_loop [8] (fun i => i = .int .i64 0) (fun _ => 0)
  case atStart => rfl
  case round =>
    subst hrel
    go_wp2
    go_ret
    exact ⟨rfl, hbel⟩

set_option maxRecDepth 100000 in
theorem law_big (a : Option Addr) (n c : Nat) (vals : Bool) (w : World) (hn : 1048576 < n) :
    Calls Yba.prog 4 #[.slice a n c, .bool vals] w fun e w' => e = .returned (.bool true) ∧ Below w.heap.size w w' := by
  have h : (1048576 : Int) < (n : Int) := by omega
  go_enter Yba.func4, Yba.ntmps4
  go_wp2
  go_ret
  exact ⟨rfl, Below.refl _ _⟩
end Go.Proofs.Ybulkdmwm
