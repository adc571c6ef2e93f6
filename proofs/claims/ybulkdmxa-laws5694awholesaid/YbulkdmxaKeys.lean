import Derived.Test.YbulkdmxaRows
import Derived.WalkKit
import Derived.ProofKit
import Derived.Below
import Derived.WalkSpells
import Derived.WalkLawsBesides
import Derived.Deep.QuietTactic
import Derived.BigQuiet
import Derived.Deep.MidRow
import Derived.ArgAppend
import Derived.Deep.DeepCutAuto
import Derived.IntWalk
import Derived.Deep.AppendLies
import Derived.Laws.CopyRow
import Derived.Laws.CopyOwn
namespace Go.Proofs.Ybulkdmxa.Keys
open Go.ChangeShapes Go.WideShapes Go.ChangeAt Go.RowKit
set_option linter.unusedSimpArgs false

theorem info5 : (Yba.prog.info? 5).map (fun i => (i.zero, i.size, i.bytes)) = some (some (.int .u8 0), 1, 1) := by kernel_rfl

def bts (G : Nat → Nat) (n : Nat) : List Value := (List.range n).map fun i => .int .u8 (G i : Int)
theorem bts_len (G : Nat → Nat) (n : Nat) : (bts G n).length = n := by simp [bts]
theorem bts_get (G : Nat → Nat) (n j : Nat) : (bts G n)[j]? = if j < n then some (.int .u8 (G j : Int)) else none := by
  by_cases h : j < n <;> simp [bts, h]
theorem bts_some (G : Nat → Nat) (n j : Nat) (v : Value) (h : (bts G n)[j]? = some v) : j < n ∧ v = .int .u8 (G j : Int) := by
  rw [bts_get] at h
  split at h
  · exact ⟨by assumption, (Option.some.inj h).symm⟩
  · cases h
theorem bts_one (G : Nat → Nat) (n : Nat) : ∀ u ∈ bts G n, u.oneCell' = true := by
  intro u hu; obtain ⟨i, _, rfl⟩ := List.mem_map.1 hu; rfl
theorem bts_add (G : Nat → Nat) (a b : Nat) : bts G (a + b) = bts G a ++ bts (fun j => G (a + j)) b := by
  unfold bts
  rw [List.range_add, List.map_append, List.map_map]
  rfl

theorem cell_alloc {w : World} {a : Addr} {v : Value} (o : Obj) (h : w.cell? a = some v) : (w.alloc o).cell? a = some v := by
  rw [World.cell?_alloc_lt (h := World.block_lt_of_cell? _ _ h)]; exact h
theorem owns_mono {w : World} {base base' e size n : Nat} {v : Value} {xs : List Value} (h : w.ownsRow base e size v n xs) (hb : base' ≤ base) : w.ownsRow base' e size v n xs :=
  ⟨h.1, h.2.imp id fun ⟨g, cap, cur, e, hg, r⟩ => ⟨g, cap, cur, e, Nat.le_trans hb hg, r⟩⟩
theorem news2 (w : World) (x y : Value) : ∀ j u, [x, y][j]? = some u → (w.alloc (.cells #[x, y] 5)).cell? ((⟨w.heap.size, 0, none⟩ : Addr).add j) = some u :=
  World.news_of_block (heap_alloc_new w _)

set_option maxRecDepth 100000 in
set_option maxHeartbeats 1000000 in
theorem app16 (B n : Nat) (v : Int) (hn0 : n ≤ 1048576) (G : Nat → Nat) (w : World) (h : w.heap[B]? = some (.cells (bts G n).toArray 5 (0, 0))) :
    Calls Yba.prog 5 #[.agg #[], .slice (some ⟨B, 0, none⟩) n n, .int .u16 v] w fun e w' => ∃ v', e = .returned v' ∧ Below w.heap.size w w' ∧ w'.ownsRow w.heap.size 5 1 v' (n + 2) (bts G n ++ [.int .u8 (v % 256), .int .u8 (v / 256 % 256)]) := by
  obtain ⟨i0, hi, hz0, hz1, hz2⟩ := info_parts info5
  have HI : Hid (_ ∧ _ ∧ _ ∧ _) := ⟨hi, hz0, hz1, hz2⟩
  clear hi hz0 hz1 hz2
  have HB : Hid (∀ j u, (bts G n)[j]? = some u → w.cell? ⟨B, 0 + j, none⟩ = some u) := by
    intro j u hu
    rw [cell_of_row _ _ _ _ _ _ h]
    simpa using hu
  have hn : Hid (n ≤ 1048576) := hn0
  clear h hn0
  go_enter Yba.func5, Yba.ntmps5
  go_wp2_with (at_builtin; refine wpList_append_arg _ (by rfl) (.tmp 7) (.tmp 13) 22 (by rfl) 5 i0 (.int .u8 0) 1 1 Yba.underlying22 HI.out.1 HI.out.2.1 HI.out.2.2.1 HI.out.2.2.2 (by rfl) (by decide) B 0 n n (bts G n) (by rfl) (by rw [bts_len]; omega) ?c0 ⟨w.heap.size + 1, 0, none⟩ 2 2 [.int .u8 (v % 256), .int .u8 (v / 256 % 256)] (by rfl) (by rfl) ?c1 ?c2 ?c3 ?c4 ?c5 ?room ?grow)
  case c0 => exact (fun j u hj => cell_alloc _ (cell_alloc _ (HB.out j u hj)))
  case c1 => simpa using news2 (w.alloc (.cells #[] 29)) (.int .u8 (v % 256)) (.int .u8 (v / 256 % 256))
  case c2 => intro u hu; simp at hu; rcases hu with rfl | rfl <;> rfl
  case c3 => exact (fun hr => by omega)
  case c4 => have := hn.out; unfold maxLen; omega
  case c5 => have := hn.out; omega
  case room => exact (fun hr => by omega)
  intro v' w1 hown' hgrow
  have hb : Below w.heap.size w w1 := ((((Below.refl _ w).alloc (Nat.le_refl _) _).alloc (by simp) _).grown hgrow (by simp; omega) (fun k hk => by cases hk))
  have ho : w1.ownsRow w.heap.size 5 1 v' (n + 2) (bts G n ++ [.int .u8 (v % 256), .int .u8 (v / 256 % 256)]) := owns_mono hown' (by omega)
  clear hown' hgrow
  go_wp2
  go_ret
  exact ⟨_, rfl, hb, ho⟩

/-- What is known of the keys that came in: where there is one, key i's byte j is K (32 * i + j). -/
def KRow (w : World) (ao : Option Addr) (n b o : Nat) (K : Nat → Nat) : Prop := 0 < n → ao = some ⟨b, o, none⟩ ∧ b < w.heap.size ∧ ∀ i, i < n * 32 → w.cell? ⟨b, o + i, none⟩ = some (.int .u8 (K i : Int))
def key (K : Nat → Nat) (i : Nat) : List Value := bts (fun j => K (i * 32 + j)) 32
theorem key_range {w wr : World} {ao : Option Addr} {n b o : Nat} {K : Nat → Nat} (h : KRow w ao n b o K) (hb : Below w.heap.size w wr) {i : Nat} (hi : i < n) : wr.rangeAt b (o + i * 32) (key K i) := by
  intro j v hv
  obtain ⟨hj, rfl⟩ := bts_some _ _ _ _ hv
  obtain ⟨_, hl, hc⟩ := h (by omega)
  rw [hb.cell (by exact hl), Nat.add_assoc]
  exact hc _ (by omega)
def full (G K : Nat → Nat) (n0 : Nat) (v : Int) (q : Nat) : List Value := bts G n0 ++ [.int .u8 (v % 256), .int .u8 (v / 256 % 256)] ++ bts K (q * 32)
theorem full_zero (G K : Nat → Nat) (n0 : Nat) (v : Int) : full G K n0 v 0 = bts G n0 ++ [.int .u8 (v % 256), .int .u8 (v / 256 % 256)] := by simp [full, bts]
theorem full_succ (G K : Nat → Nat) (n0 : Nat) (v : Int) (q : Nat) : full G K n0 v (q + 1) = full G K n0 v q ++ key K q := by
  unfold full key
  rw [show (q + 1) * 32 = q * 32 + 32 by omega, bts_add, ← List.append_assoc]

theorem owns_below {w w' : World} {base e size n : Nat} {v : Value} {xs : List Value} (h : w.ownsRow base e size v n xs) (hb : Below w.heap.size w w') : w'.ownsRow base e size v n xs :=
  h.kept (row := none) ⟨hb.os, hb.tape, hb.output, hb.size, fun k hk _ => hb.block k hk⟩ (by cases v.ownBlock <;> simp)
theorem below_sets {B b : Nat} {a : World} (hb : B ≤ b) : ∀ (vs : List Value) (o : Nat) (w : World), Below B a w → Below B a (w.setCells b o vs)
  | [], _, _, h => h
  | _ :: r, o, _, h => below_sets hb r (o + 1) _ (h.setCell hb _)
theorem there_new (w : World) (cs : Array Value) (t : TypeId) (n : Nat) (hn : n = cs.size) : (w.alloc (.cells cs t)).there w.heap.size 0 n := by
  intro j hj
  have hb := heap_alloc_new w (.cells cs t)
  refine ⟨?_, frozen_of_row _ _ _ _ _ hb⟩
  rw [cell_of_row _ _ _ _ _ _ hb]
  simp; omega
theorem size_sets (b : Nat) : ∀ (vs : List Value) (o : Nat) (w : World), (w.setCells b o vs).heap.size = w.heap.size
  | [], _, _ => rfl
  | v :: r, o, w => by rw [World.setCells, size_sets b r]; simp [World.setCell]
theorem size26 : (Yba.prog.info? 26).map (·.size) = some 32 := by kernel_rfl
theorem key_len (K : Nat → Nat) (i : Nat) : (key K i).length = 32 := bts_len _ _
theorem size26k (K : Nat → Nat) (i : Nat) : (Yba.prog.info? 26).map (·.size) = some (key K i).length := by rw [key_len]; exact size26
theorem size26a (K : Nat → Nat) (i : Nat) : (Yba.prog.info? 26).map (·.size) = some (key K i).toArray.size := by rw [List.size_toArray, key_len]; exact size26
theorem one_key (K : Nat → Nat) (i : Nat) : (key K i).toArray.all (·.oneCell') = true := all_oneCell_toArray (bts_one _ _)
def zer : Value := .int .u8 0
theorem there_key (w : World) (K : Nat → Nat) (i : Nat) (cs : Array Value) (hc : cs.size = 32) : (w.alloc (.cells cs 26)).there w.heap.size 0 (key K i).toArray.size := there_new w cs 26 _ (by rw [List.size_toArray, key_len, hc])

theorem wpList_store_key {ops : Array Oper} {rest : List Oper} {op : Oper} {a : Act} {wr : World} {Q : Exit → Act → World → Prop} {cs : Array Value} {K : Nat → Nat} {q : Nat} (hgd : op.guard = none) (x y : Operand) (ho : op.op = .store 26 x y)
    (hx : a.eval x = .pointer (some ⟨wr.heap.size, 0, none⟩)) (hy : a.eval y = .agg (key K q).toArray) (hcs : cs.size = 32)
    (h : ∀ W, Hid (Below wr.heap.size wr W) → Hid (W.rangeAt wr.heap.size 0 (key K q)) → wr.heap.size < W.heap.size → wpList Yba.prog ops Q rest (a.put op.dst undef) W) :
    wpList Yba.prog ops Q (op :: rest) a (wr.alloc (.cells cs 26)) := by
  have ht := there_key wr K q cs hcs
  refine wpList_store_mid hgd 26 x y ho wr.heap.size 0 (key K q).toArray hx hy ht (size26a K q) (one_key K q) ?_
  refine h _ (below_sets (Nat.le_refl _) _ _ _ ((Below.refl _ wr).alloc (Nat.le_refl _) _)) ?_ (by rw [size_sets]; simp)
  exact World.rangeAt_setCells_same (wr.alloc (.cells cs 26)) wr.heap.size 0 (key K q) (by simpa using ht)

set_option maxRecDepth 100000 in
set_option maxHeartbeats 1000000 in
theorem keys_any (B n0 n1 c1 kb ko : Nat) (a1 : Option Addr) (G K : Nat → Nat) (w : World) (hn0 : n0 ≤ 1048576) (hn1 : n1 ≤ 65536) (hB : Hid (w.heap[B]? = some (.cells (bts G n0).toArray 5 (0, 0)))) (hk : Hid (KRow w a1 n1 kb ko K)) :
    Calls Yba.prog 4 #[.slice (some ⟨B, 0, none⟩) n0 n0, .slice a1 n1 c1] w fun e w' => ∃ v', e = .returned v' ∧ Below w.heap.size w w' ∧ w'.ownsRow w.heap.size 5 1 v' (n0 + 2 + n1 * 32) (full G K n0 ((n1 : Int) % 65536) n1) := by
  obtain ⟨i0, hi, hz0, hz1, hz2⟩ := info_parts info5
  have HI : Hid (_ ∧ _ ∧ _ ∧ _) := ⟨hi, hz0, hz1, hz2⟩
  clear hi hz0 hz1 hz2
  have hn0' : Hid (n0 ≤ 1048576) := hn0
  have hn1' : Hid (n1 ≤ 65536) := hn1
  clear hn0 hn1
  go_enter Yba.func4, Yba.ntmps4
  go_wp2_with fail
  refine (app16 B n0 _ hn0'.out G _ hB.out).mono ?_
  rintro e w1 ⟨v0, rfl, hb1, ho1⟩
  have H0 : Hid (Below w.heap.size w w1) := hb1
  have H1 : Hid (w1.ownsRow w.heap.size 5 1 v0 (n0 + 2) (full G K n0 ((n1 : Int) % 65536) 0)) := by unfold Hid; rw [full_zero]; exact ho1
  clear hb1 ho1
  go_wp2
  go_loopw [0, 15] (fun v i wr => ∃ q : Nat, q ≤ n1 ∧ i = .int .i64 q ∧ Hid (Below w.heap.size w wr) ∧ Hid (wr.ownsRow w.heap.size 5 1 v (n0 + 2 + q * 32) (full G K n0 ((n1 : Int) % 65536) q))) (fun _ i _ => n1 - (intOf i).toNat)
  case atStart => exact ⟨0, by omega, rfl, H0, H1⟩
  case round =>
    obtain ⟨q, hq, rfl, hb, ho⟩ := hrel
    have hn1 : n1 ≤ 65536 := hn1'.out
    by_cases hlt : q < n1
    · obtain ⟨rfl, hkl, hkc⟩ := hk.out (by omega)
      have HR : Hid (wr.rangeAt kb (ko + q * 32) (key K q)) := key_range hk.out hb.out hlt
      clear hkl hkc
      have hq0 : (0 : Int) ≤ (q : Int) := by omega
      have hqn : (q : Int) < (n1 : Int) := by omega
      go_upto_region 4 with fail
      go_step
      go_step
      go_step
      go_step
      refine wpList_load_mid (by rfl) 26 (.tmp 17) (by rfl) kb (ko + q * 32) (by rfl) (key K q) _ HR.out Yba.underlying26 (by rfl) (size26k K q) ?_
      go_step
      go_step
      go_step
      refine wpList_store_key (K := K) (q := q) (by rfl) (.tmp 6) (.tmp 18) (by rfl) (by rfl) (by rfl) (by rfl) ?_
      intro W HW1 HW2 hW3
      have HO : Hid (W.ownsRow w.heap.size 5 1 u0 (n0 + 2 + q * 32) (full G K n0 ((n1 : Int) % 65536) q)) := owns_below ho.out HW1.out
      have HS : Hid (∀ j u, (key K q)[j]? = some u → W.cell? ((⟨wr.heap.size, 0, none⟩ : Addr).add j) = some u) := fun j u hu => by rw [Addr.add_lit]; exact HW2.out j u hu
      go_wp2_with (at_builtin; refine wpList_append_own _ (by rfl) (.tmp 19) (.tmp 20) 22 (by rfl) w.heap.size 5 i0 (.int .u8 0) 1 1 Yba.underlying22 HI.out.1 HI.out.2.1 HI.out.2.2.1 HI.out.2.2.2 (by rfl) (by decide) u0 _ _ (by rfl) HO.out ⟨wr.heap.size, 0, none⟩ 32 32 (key K q) (by rfl) (by rw [key_len]) HS.out (bts_one _ _) (by have := hn0'.out; have := hn1'.out; unfold maxLen; omega) (by have := hn0'.out; have := hn1'.out; omega) (by have := hb.out.size; omega) ?_; intro v' w2 hown' hgrow hn')
      have R1 : Hid (Below w.heap.size w w2) := (hb.out.trans (HW1.out.mono hb.out.size)).grown hgrow (by have := hb.out.size; omega) (fun k hk => (HO.out.lt k hk).1)
      have R2 : Hid (w2.ownsRow w.heap.size 5 1 v' (n0 + 2 + (q + 1) * 32) (full G K n0 ((n1 : Int) % 65536) (q + 1))) := by
        unfold Hid
        rw [full_succ, show n0 + 2 + (q + 1) * 32 = n0 + 2 + q * 32 + 32 by omega]
        exact hown'
      clear hown' hgrow hn' HO HS HW1 HW2
      go_wp2
      go_roundw
      case rel => exact ⟨q + 1, by omega, by go_num, R1, R2⟩
      case measure => simp [intOf]; omega
    · obtain rfl : q = n1 := by omega
      go_wp2
      go_ret
      exact ⟨_, rfl, hb.out, ho.out⟩
end Go.Proofs.Ybulkdmxa.Keys
