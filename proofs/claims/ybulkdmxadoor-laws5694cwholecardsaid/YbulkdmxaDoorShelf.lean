/-
  The shelf's contract of (*bytes.Buffer).Write, a buffer inside a struct, at this program: written by the kit's tools (lay-shelf.mjs, lay-plain.mjs) for this program, cut to that one contract.
-/
import Derived.Shelf.LaysM
import Derived.Shelf.Bytes.WriteAt
import Derived.Test.YbulkdmxaDoorProg
namespace Go.Proofs
open Go.Shelf
def Ybad.laysM180_ren : Go.Shelf.Ren := ⟨fun | 180 => 4 | 251 => 7 | 252 => 8 | 181 => 6 | 184 => 9 | 290 => 10 | 324 => 11 | n => n, fun | 130 => 46 | 37 => 22 | 3 => 3 | 75 => 36 | 0 => 0 | 93 => 32 | 91 => 30 | 131 => 47 | 4 => 4 | 20 => 20 | 5 => 5 | 80 => 54 | 9 => 9 | n => n, fun | 14 => 0 | n => n⟩
theorem Ybad.laysM180 : Go.Proofs.LaysM.n180 Ybad.prog Ybad.laysM180_ren := {
  mixed := by kernel_rfl
  f180 := Ybad.func4.trans (congrArg some (by kernel_rfl))
  f181 := Ybad.func6.trans (congrArg some (by kernel_rfl))
  f184 := Ybad.func9.trans (congrArg some (by kernel_rfl))
  f251 := Ybad.func7.trans (congrArg some (by kernel_rfl))
  f252 := Ybad.func8.trans (congrArg some (by kernel_rfl))
  f290 := Ybad.func10.trans (congrArg some (by kernel_rfl))
  f324 := Ybad.func11.trans (congrArg some (by kernel_rfl))
  t0 := Ybad.underlying0
  a0 := Ybad.isAgg0
  z0 := Ybad.sizeOf0
  v0 := Ybad.zeroValue0
  t3 := Ybad.underlying3
  a3 := Ybad.isAgg3
  z3 := Ybad.sizeOf3
  v3 := Ybad.zeroValue3
  t4 := Ybad.underlying4
  a4 := Ybad.isAgg4
  z4 := Ybad.sizeOf4
  v4 := Ybad.zeroValue4
  t20 := Ybad.underlying20
  a20 := Ybad.isAgg20
  z20 := Ybad.sizeOf20
  v20 := Ybad.zeroValue20
  t37 := Ybad.underlying22
  a37 := Ybad.isAgg22
  z37 := Ybad.sizeOf22
  v37 := Ybad.zeroValue22
  t75 := Ybad.underlying36
  a75 := Ybad.isAgg36
  z75 := Ybad.sizeOf36
  v75 := Ybad.zeroValue36
  t91 := Ybad.underlying30
  a91 := Ybad.isAgg30
  z91 := Ybad.sizeOf30
  v91 := Ybad.zeroValue30
  t93 := Ybad.underlying32
  a93 := Ybad.isAgg32
  z93 := Ybad.sizeOf32
  v93 := Ybad.zeroValue32
  t130 := Ybad.underlying46
  a130 := Ybad.isAgg46
  z130 := Ybad.sizeOf46
  v130 := Ybad.zeroValue46
  t131 := Ybad.underlying47
  a131 := Ybad.isAgg47
  z131 := Ybad.sizeOf47
  v131 := Ybad.zeroValue47
  g14 := by kernel_rfl
  t5 := Ybad.underlying5
  a5 := Ybad.isAgg5
  z5 := Ybad.sizeOf5
  v5 := Ybad.zeroValue5
  t9 := Ybad.underlying9
  a9 := Ybad.isAgg9
  z9 := Ybad.sizeOf9
  v9 := Ybad.zeroValue9
  t80 := Ybad.underlying54
  a80 := Ybad.isAgg54
  z80 := Ybad.sizeOf54
  v80 := Ybad.zeroValue54
  i0 := by kernel_rfl
  i3 := by kernel_rfl
  i4 := by kernel_rfl
  i5 := by kernel_rfl
  i9 := by kernel_rfl
  i20 := by kernel_rfl
  i37 := by kernel_rfl
  i75 := by kernel_rfl
  i80 := by kernel_rfl
  i91 := by kernel_rfl
  i93 := by kernel_rfl
  i130 := by kernel_rfl
  i131 := by kernel_rfl
  m14 := by kernel_rfl }
open Go.RowKit in
/-- (*bytes.Buffer).Write: "Write appends the contents of p to the buffer, growing the buffer as needed. The return value n is the length of p; err is always nil." (LAID: no walk: one application.) -/
theorem Ybad.Buffer_Write_at (T : TypeId) (R : Nat → Option Value) (B b q : Nat) (bs cs : List Value) (a : Addr) (n c : Nat) (w : World) (h : LibA.IsBuffer T R 5 B b q bs w) (hBw : B ≤ w.heap.size) (h1 : ∀ v ∈ bs, v.oneCell' = true) (hn : cs.length = n) (hab : a.block ≠ b) (hsrc : ∀ j v, cs[j]? = some v → w.cell? (a.add j) = some v) (h1c : ∀ v ∈ cs, v.oneCell' = true) (hlim : bs.length + n ≤ 140737488355328) :
    Calls Ybad.prog 4 #[.pointer (some ⟨b, q, none⟩), .slice (some a) n c] w fun e w' => e = .returned (.tuple #[.int .i64 n, .nilIface]) ∧ LibA.IsBuffer T R 5 B b q (bs ++ cs) w' ∧ Below B w w' ∧ Lib.OthersKept 5 (some b) w w' := Any.Buffer_Write_at Ybad.laysM180 T R B b q bs cs a n c w h hBw h1 hn hab hsrc h1c hlim
end Go.Proofs
