import Derived.Test.YbulkdmxaDoorShelf
import Derived.Test.YbulkdmxaDoorNext
import Derived.Laws.IdiomCopy
namespace Go.Proofs.YbulkdmxaDoor.Next
open Go.ChangeShapes Go.WideShapes Go.ChangeAt Go.RowKit Go.Conc
set_option linter.unusedSimpArgs false

/-- What is known of a slice of bytes that came in. -/
def U8 (w : World) (ao : Option Addr) (n b o : Nat) (z : Nat → Nat) : Prop := 0 < n → ao = some ⟨b, o, none⟩ ∧ b < w.heap.size ∧ ∀ i, i < n → w.cell? ⟨b, o + i, none⟩ = some (.int .u8 (z i : Int))
def bts (G : Nat → Nat) (n : Nat) : List Value := (List.range n).map fun i => .int .u8 (G i : Int)
theorem bts_len (G : Nat → Nat) (n : Nat) : (bts G n).length = n := by simp [bts]
theorem bts_some (G : Nat → Nat) (n j : Nat) (v : Value) (h : (bts G n)[j]? = some v) : j < n ∧ v = .int .u8 (G j : Int) := by
  have hj : j < n := by have := (List.getElem?_eq_some_iff.1 h).1; simpa [bts] using this
  simp [bts, hj] at h
  exact ⟨hj, h.symm⟩
theorem bts_one (G : Nat → Nat) (n : Nat) : ∀ u ∈ bts G n, u.oneCell' = true := by
  intro u hu; obtain ⟨i, _, rfl⟩ := List.mem_map.1 hu; rfl
theorem size5 : (Ybad.prog.info? 5).map (·.size) = some 1 := by kernel_rfl

/-- What a write into the empty buffer of a new part leaves. -/
def Wr (w w' : World) (PB : Nat) (rv : Value) (rb : Int) (la : Bool) : Prop :=
  Below PB w w' ∧ PB < w'.heap.size ∧ ∃ bo bl bc lr, (bo = none → bl = 0 ∧ bc = 0) ∧ w'.heap[PB]? = some (.cells (partc (.slice bo bl bc) lr rv rb la) 34 (0, 0))

theorem three_part {w : World} {PB : Nat} {bo rv : Value} {lr rb : Int} {la : Bool} (h : w.heap[PB]? = some (.cells (partc bo lr rv rb la) 34 (0, 0))) :
    LibA.Three w PB 0 34 (fun i => (partc bo lr rv rb la)[i]?) bo (.int .i64 0) (.int .i8 lr) := ⟨_, h, rfl, rfl, rfl, fun _ _ => rfl⟩
theorem part_three {w : World} {PB : Nat} {x bo rv : Value} {l lr rb : Int} {la : Bool} (h : LibA.Three w PB 0 34 (fun i => (partc bo lr rv rb la)[i]?) x (.int .i64 0) (.int .i8 l)) : w.heap[PB]? = some (.cells (partc x l rv rb la) 34 (0, 0)) := by
  obtain ⟨cs, hb, h0, h1, h2, hr⟩ := h
  rw [hb]
  congr 2
  apply Array.ext_getElem?
  intro i
  match i with
  | 0 => exact h0
  | 1 => exact h1
  | 2 => exact h2
  | i + 3 => rw [hr (i + 3) (by omega)]; rfl

theorem write_some (PB n c : Nat) (a : Addr) (z : Nat → Nat) (rv : Value) (rb : Int) (la : Bool) (w : World) (hp : w.heap[PB]? = some (.cells (partc (.slice none 0 0) 0 rv rb la) 34 (0, 0))) (hn : n ≤ 1048576) (hPB : PB ≤ w.heap.size)
    (hab : a.block ≠ PB) (hsrc : ∀ j v, (bts z n)[j]? = some v → w.cell? (a.add j) = some v) :
    Calls Ybad.prog 4 #[.pointer (some ⟨PB, 0, none⟩), .slice (some a) n c] w fun e w' => e = .returned (.tuple #[.int .i64 n, .nilIface]) ∧ Wr w w' PB rv rb la := by
  refine (Ybad.Buffer_Write_at 34 (fun i => (partc (.slice none 0 0) 0 rv rb la)[i]?) PB PB 0 [] (bts z n) a n c w (LibA.zero_isBuffer (Nat.le_refl _) (three_part hp)) hPB (by simp) (bts_len _ _) hab hsrc (bts_one _ _) (by simp; omega)).mono ?_
  rintro e w' ⟨rfl, ⟨_, v, lr, h3, ho, _⟩, hb, _⟩
  refine ⟨rfl, hb, h3.lt, ?_⟩
  rcases ho.2 with ⟨rfl, _⟩ | ⟨g, cap, cur, rfl, _⟩
  · exact ⟨none, 0, 0, lr, fun _ => ⟨rfl, rfl⟩, part_three h3⟩
  · exact ⟨_, _, _, lr, (fun h => by cases h), part_three h3⟩

set_option maxRecDepth 100000 in
set_option maxHeartbeats 1000000 in
theorem try_zero (PB : Nat) (w : World) (c0 : w.cell? ⟨PB, 0, none⟩ = some (.slice none 0 0)) (f0 : w.frozen? ⟨PB, 0, none⟩ = false) :
    Calls Ybad.prog 7 #[.pointer (some ⟨PB, 0, none⟩), .int .i64 0] w fun e w' => e = .returned (.tuple #[.int .i64 0, .bool true]) ∧ w' = w.setCell ⟨PB, 0, none⟩ (.slice none 0 0) := by
  go_enter Ybad.func7, Ybad.ntmps7
  go_wp2
  go_ret2
  exact ⟨rfl, rfl⟩
set_option maxRecDepth 100000 in
set_option maxHeartbeats 1000000 in
theorem write_nil (ao : Option Addr) (PB c : Nat) (rv : Value) (rb : Int) (la : Bool) (w : World) (hp : Hid (w.heap[PB]? = some (.cells (partc (.slice none 0 0) 0 rv rb la) 34 (0, 0)))) :
    Calls Ybad.prog 4 #[.pointer (some ⟨PB, 0, none⟩), .slice ao 0 c] w fun e w' => e = .returned (.tuple #[.int .i64 0, .nilIface]) ∧ Wr w w' PB rv rb la := by
  obtain ⟨c0, c1, c2, _, _, _⟩ := part_0 hp.out
  have f0 : w.frozen? ⟨PB, 0, none⟩ = false := frozen_of_row _ _ _ _ _ hp.out
  have f2 : w.frozen? ⟨PB, 2, none⟩ = false := frozen_of_row _ _ _ _ _ hp.out
  have hcp : ∀ W, (Builtin.copy_ #[22, 22] 3 #[.slice none 0 0, .slice ao 0 c]).run Ybad.prog W = .ok (goInt 0) W := fun W => run_copy_none (P := Ybad.prog) W 22 22 3 5 none ao 0 0 0 c Ybad.underlying22 size5 rfl
  go_enter Ybad.func4, Ybad.ntmps4
  go_wp2_with fail
  refine (try_zero PB _ ((World.cell?_setCell_other _ _ _ _ (by simp)).trans c0) (frozen_of_row _ _ _ _ _ (part_set hp.out 2 _))).mono ?_
  rintro e W1 ⟨rfl, rfl⟩
  go_wp2_with (rw [hcp])
  go_ret2
  refine ⟨rfl, ((Below.refl _ w).setCell (by exact Nat.le_refl _) _).setCell (by exact Nat.le_refl _) _, ?_, none, 0, 0, 0, fun _ => ⟨rfl, rfl⟩, part_set (part_set hp.out 2 _) 0 _⟩
  have := (Array.getElem?_eq_some_iff.1 hp.out).1
  simpa [World.setCell] using this

set_option maxRecDepth 100000 in
set_option maxHeartbeats 1000000 in
theorem len_any (PB : Nat) (bo : Option Addr) (bl bc : Nat) (w : World) (hb : (bl : Int) ≤ 1048576) (c0 : w.cell? ⟨PB, 0, none⟩ = some (.slice bo bl bc)) (c1 : w.cell? ⟨PB, 1, none⟩ = some (.int .i64 0)) :
    Calls Ybad.prog 6 #[.pointer (some ⟨PB, 0, none⟩)] w fun e w' => e = .returned (.int .i64 bl) ∧ ∃ m, w' = w.drewN m := by
  go_enter Ybad.func6, Ybad.ntmps6
  go_wp2
  go_quiet (fail)
  go_wp2
  go_ret
  exact ⟨rfl, _, rfl⟩
end Go.Proofs.YbulkdmxaDoor.Next
