import Derived.Test.YbulkdmwmRows
import Derived.WalkKit
import Derived.ProofKit
import Derived.Below
import Derived.WalkSpells
import Derived.WalkLawsBesides
import Derived.Deep.QuietTactic
import Derived.BigQuiet
import Derived.Deep.AppendLies
import Derived.LaidEqlPtr
namespace Go.Proofs.Ybulkdmwm.Legs
open Go.ChangeShapes Go.WideShapes Go.ChangeAt Go.RowKit
set_option linter.unusedSimpArgs false

theorem info23 : (Yba.prog.info? 23).map (fun i => (i.zero, i.size, i.bytes)) = some (some (.pointer none), 1, 8) := by kernel_rfl

/-- The pointer that 'pick' hands out. -/
def ptr (L : Nat → Nat) (k : Nat) : Option Addr := if k = 6 then none else some ⟨L k, 0, none⟩

theorem pick_any (pb k : Nat) (L : Nat → Nat) (w : World) (hk : k ≤ 6) (hc : k < 6 → w.cell? ⟨pb, k, none⟩ = some (.pointer (some ⟨L k, 0, none⟩))) :
    Calls Yba.prog 5 #[.pointer (some ⟨pb, 0, none⟩), .int .i64 k] w fun e w' => e = .returned (.pointer (ptr L k)) ∧ w = w' := by
  by_cases h6 : k = 6
  · subst h6
    go_enter Yba.func5, Yba.ntmps5
    go_wp2
    go_ret
    exact ⟨rfl, rfl⟩
  · have h := hc (by omega)
    have h5 : (k : Int) < 6 := by omega
    have h5' : ((k : Int) == 6) = false := by rw [beq_eq_false_iff_ne]; omega
    have e : ptr L k = some ⟨L k, 0, none⟩ := by simp [ptr, h6]
    rw [e]
    clear hc e
    go_enter Yba.func5, Yba.ntmps5
    go_wp2
    go_ret
    exact ⟨rfl, rfl⟩

/-- A pointer that is nil or leads to a block of cells that is there. -/
def Live (w : World) (p : Option Addr) : Prop := ∀ a, p = some a → ∃ c t, w.heap[a.block]? = some (.cells c t (0, 0))
theorem Live.below {B : Nat} {w w' : World} {p : Option Addr} (h : Live w p) (hb : Below B w w') (hB : ∀ a, p = some a → a.block < B) : Live w' p := fun a ha => by
  obtain ⟨c, t, hc⟩ := h a ha
  exact ⟨c, t, (hb.block _ (hB a ha)).trans hc⟩
theorem Live.lt {w : World} {p : Option Addr} (h : Live w p) : ∀ a, p = some a → a.block < w.heap.size := fun a ha => by
  obtain ⟨c, t, hc⟩ := h a ha
  exact (Array.getElem?_eq_some_iff.1 hc).1
theorem info35 : (Yba.prog.info? 35).map (·.size) = some 5 := by kernel_rfl
theorem run_eql_legs (w : World) (p q : Option Addr) (hp : Live w p) (hq : Live w q) : Sem.run Yba.prog (binOp .eql 23 (.pointer p) (.pointer q)) w = .ok (.bool (decide (p = q))) w := by
  obtain ⟨j, hj, hsz⟩ := Option.map_eq_some_iff.1 info35
  cases q with
  | none =>
    have h := run_eql_pointer_nil (P := Yba.prog) w 23 p (by kernel_rfl)
    rw [h]; cases p <;> rfl
  | some b =>
    cases p with
    | none =>
      have h : ∀ d : Nat, (Op.equalIn (d + 1) 23 (.pointer none) (.pointer (some b))).run Yba.prog w = .ok false w := fun d => by simp [Op.equalIn, run_underlying Yba.underlying23]
      simp only [binOp]
      simp [Op.equal, Op.maxDepth, h 9999]
    | some a =>
      by_cases e : a = b
      · subst e
        rw [run_eql_ptr_same w a Yba.underlying23 hj]; simp
      · obtain ⟨ca, ta, ha⟩ := hp a rfl
        obtain ⟨cb, tb, hb⟩ := hq b rfl
        rw [run_eql_ptr_other w Yba.underlying23 hj (by omega) e ha hb]; simp [e]
theorem run_neq_legs (w : World) (p q : Option Addr) (hp : Live w p) (hq : Live w q) : Sem.run Yba.prog (binOp .neq 23 (.pointer p) (.pointer q)) w = .ok (.bool (!decide (p = q))) w := by
  have h := run_eql_legs w p q hp hq
  simp only [binOp] at h ⊢
  simp only [go_sem, Sem.run_bind] at h ⊢
  revert h
  cases hr : Sem.run Yba.prog (Op.equal 23 (.pointer p) (.pointer q)) w with
  | ok b w' => simp
  | halt h w' => intro h; simp at h

/-- Is the i-th leg of the session among the first m of the drop list? -/
def gone (P Q : Nat → Option Addr) (m i : Nat) : Bool := (List.range m).any fun j => decide (Q j = P i)
def keep (P Q : Nat → Option Addr) (m n : Nat) : List Value := ((List.range n).filter fun i => !gone P Q m i).map fun i => .pointer (P i)
theorem gone_succ (P Q : Nat → Option Addr) (m i : Nat) : gone P Q (m + 1) i = (gone P Q m i || decide (Q m = P i)) := by
  simp [gone, List.range_succ]
theorem keep_succ (P Q : Nat → Option Addr) (m n : Nat) : keep P Q m (n + 1) = keep P Q m n ++ (if gone P Q m n then [] else [.pointer (P n)]) := by
  unfold keep
  rw [List.range_succ, List.filter_append, List.map_append]
  congr 1
  cases h : gone P Q m n <;> simp [h]
theorem keep_le (P Q : Nat → Option Addr) (m n : Nat) : (keep P Q m n).length ≤ n := by
  unfold keep
  rw [List.length_map]
  exact Nat.le_trans (List.length_filter_le _ _) (by simp)
theorem grown_bel {B : Nat} {w wr w1 : World} {o : Obj} {v : Value} (hB : B ≤ wr.heap.size) (hb : Below B w wr) (hg : (wr.alloc o).grownBy w1 v.ownBlock) (hv : ∀ k, v.ownBlock = some k → B ≤ k) : Below B w w1 :=
  (hb.alloc hB o).grown hg (by simp; omega) hv

set_option maxRecDepth 100000 in
set_option maxHeartbeats 1000000 in
theorem drop_any (S n c m d sb db : Nat) (ao bo : Option Addr) (P Q : Nat → Option Addr) (w : World)
    (hS : w.cell? ⟨S, 3, none⟩ = some (.slice ao n c)) (hF : w.frozen? ⟨S, 3, none⟩ = false) (hn : n ≤ 4096) (hm : m ≤ 4096)
    (ha : Hid (0 < n → ao = some ⟨sb, 0, none⟩ ∧ ∀ i, i < n → w.cell? ⟨sb, i, none⟩ = some (.pointer (P i))))
    (lP : ∀ i, i < n → Live w (P i)) (lQ : ∀ i, i < m → Live w (Q i))
    (hb : Hid (0 < m → bo = some ⟨db, 0, none⟩ ∧ ∀ i, i < m → w.cell? ⟨db, i, none⟩ = some (.pointer (Q i)))) :
    Calls Yba.prog 7 #[.pointer (some ⟨S, 0, none⟩), .slice bo m d] w fun e w' => e = .returned (.tuple #[]) ∧ ∃ wx v, w' = wx.setCell ⟨S, 3, none⟩ v ∧ Below w.heap.size w wx ∧
      wx.ownsRow w.heap.size 23 1 v (keep P Q m n).length (keep P Q m n) ∧ (keep P Q m n = [] → v = .slice none 0 0) := by
  have LP : Hid (∀ i, i < n → Live w (P i)) := lP
  have LQ : Hid (∀ i, i < m → Live w (Q i)) := lQ
  clear lP lQ
  have lS := World.block_lt_of_cell? w _ hS
  obtain ⟨i0, hi, hz0, hz1, hz2⟩ := info_parts info23
  have HI : Hid (_ ∧ _ ∧ _ ∧ _) := ⟨hi, hz0, hz1, hz2⟩
  clear hi hz0 hz1 hz2
  go_enter Yba.func7, Yba.ntmps7
  go_wp2
  go_loopw [4, 15] (fun v i wr => ∃ k : Nat, k ≤ n ∧ i = .int .i64 k ∧ Below w.heap.size w wr ∧ wr.ownsRow w.heap.size 23 1 v (keep P Q m k).length (keep P Q m k) ∧ Hid (keep P Q m k = [] → v = .slice none 0 0)) (fun _ i _ => n - (intOf i).toNat)
  case atStart => exact ⟨0, Nat.zero_le _, rfl, Below.refl _ _, World.ownsRow_nil _ _ _ _, fun _ => rfl⟩
  case round =>
    obtain ⟨k, hk, rfl, hbel, hown, hnil⟩ := hrel
    by_cases hlt : k < n
    · obtain ⟨rfl, hcs⟩ := ha.out (by omega)
      have hc1 : wr.cell? ⟨sb, k, none⟩ = some (.pointer (P k)) := (hbel.cell (World.block_lt_of_cell? w _ (hcs k hlt))).trans (hcs k hlt)
      clear hcs
      have HO : Hid (wr.ownsRow w.heap.size 23 1 u4 (keep P Q m k).length (keep P Q m k)) := hown
      clear hown
      go_wp2
      go_loop [7, 21] (fun b j => ∃ q : Nat, q ≤ m ∧ j = .int .i64 q ∧ b = .bool (gone P Q q k)) (fun _ j => m - (intOf j).toNat)
      case atStart => exact ⟨0, Nat.zero_le _, rfl, rfl⟩
      case round =>
        obtain ⟨q, hq, rfl, rfl⟩ := hrel
        by_cases hqm : q < m
        · obtain ⟨rfl, hds⟩ := hb.out (by omega)
          have hc2 : wr.cell? ⟨db, q, none⟩ = some (.pointer (Q q)) := (hbel.cell (World.block_lt_of_cell? w _ (hds q hqm))).trans (hds q hqm)
          have HG := gone_succ P Q q k
          have HG' : Hid (gone P Q (q + 1) k = (gone P Q q k || decide (Q q = P k))) := HG
          have hq1 := run_eql_legs wr (Q q) (P k) ((LQ.out q hqm).below hbel (LQ.out q hqm).lt) ((LP.out k hlt).below hbel (LP.out k hlt).lt)
          clear hds HG
          cases hgq : gone P Q q k
          all_goals
            go_wp2
            go_round
            case rel => exact ⟨q + 1, by omega, by go_num, by rw [HG'.out, hgq]; simp⟩
            case measure => simp [intOf]; omega
        · obtain rfl : q = m := by omega
          cases hgq : gone P Q q k
          · have HK : Hid (keep P Q q (k + 1) = keep P Q q k ++ [.pointer (P k)]) := by unfold Hid; rw [keep_succ, hgq]; rfl
            go_wp2_with (at_builtin; refine wpList_append_own _ (by rfl) (.tmp 34) (.tmp 36) 37 (by rfl) w.heap.size 23 i0 (.pointer none) 1 8 Yba.underlying37 HI.out.1 HI.out.2.1 HI.out.2.2.1 HI.out.2.2.2 (by rfl) (by decide) u4 _ (keep P Q q k) (by rfl) (HO.out.alloc _) ⟨wr.heap.size, 0, none⟩ 1 1 [.pointer (P k)] (by rfl) (by rfl) (World.news_of_block (heap_alloc_new wr _)) (by intro u hu; simp at hu; subst hu; rfl) (by have := keep_le P Q q k; unfold maxLen; omega) (by have := keep_le P Q q k; omega) (by have := hbel.size; simp; omega) ?_; intro v' w1 hown' hgrow hn')
            have R1 := grown_bel (Nat.le_trans (Nat.le_refl _) hbel.size) hbel hgrow (fun b e => (HO.out.lt b e).1)
            have R2 : w1.ownsRow w.heap.size 23 1 v' (keep P Q q (k + 1)).length (keep P Q q (k + 1)) := by rw [HK.out]; simpa using hown'
            have R3 : keep P Q q (k + 1) = [] → v' = .slice none 0 0 := by rw [HK.out]; simp
            clear hown' hgrow hn' HO
            go_wp2
            go_roundw
            case rel => exact ⟨k + 1, by omega, by go_num, R1, R2, R3⟩
            case measure => simp [intOf]; omega
          · have HK : Hid (keep P Q q (k + 1) = keep P Q q k) := by unfold Hid; rw [keep_succ, hgq]; simp
            go_wp2
            go_roundw
            case rel => exact ⟨k + 1, by omega, by go_num, hbel, by rw [HK.out]; exact HO.out, by rw [HK.out]; exact hnil.out⟩
            case measure => simp [intOf]; omega
    · obtain rfl : k = n := by omega
      have hS' : wr.cell? ⟨S, 3, none⟩ = some (.slice ao k c) := (hbel.cell (by exact lS)).trans hS
      have hF' : wr.frozen? ⟨S, 3, none⟩ = false := (hbel.frozen (by exact lS)).trans hF
      have HO : Hid (wr.ownsRow w.heap.size 23 1 u4 (keep P Q m k).length (keep P Q m k)) := hown
      obtain ⟨oo, l4, c4, hu4⟩ : ∃ oo l4 c4, u4 = .slice oo l4 c4 := by
        rcases hown.2 with ⟨h, _⟩ | ⟨g, cap, cur, h, _⟩
        · exact ⟨_, _, _, h⟩
        · exact ⟨_, _, _, h⟩
      clear hown
      subst hu4
      go_wp2
      go_end0
      exact ⟨rfl, _, _, rfl, hbel, HO.out, hnil.out⟩

def pcells (P : Nat → Option Addr) (n : Nat) : List Value := (List.range n).map fun i => .pointer (P i)
theorem pcells_get (P : Nat → Option Addr) (n j : Nat) (v : Value) (h : (pcells P n)[j]? = some v) : j < n ∧ v = .pointer (P j) := by
  have hj : j < n := by have := (List.getElem?_eq_some_iff.1 h).1; simpa [pcells] using this
  simp [pcells, hj] at h
  exact ⟨hj, h.symm⟩
theorem pcells_len (P : Nat → Option Addr) (n : Nat) : (pcells P n).length = n := by simp [pcells]
theorem pcells_one (P : Nat → Option Addr) (n : Nat) : ∀ u ∈ pcells P n, u.oneCell' = true := by
  intro u hu; obtain ⟨i, _, rfl⟩ := List.mem_map.1 hu; rfl

/-- What is known of a slice of legs: where there is an element, it begins at the head of a block, and cell i is the pointer P i. -/
def Row (w : World) (ao : Option Addr) (n b : Nat) (P : Nat → Option Addr) : Prop := 0 < n → ao = some ⟨b, 0, none⟩ ∧ ∀ i, i < n → w.cell? ⟨b, i, none⟩ = some (.pointer (P i))

set_option maxRecDepth 100000 in
set_option maxHeartbeats 1000000 in
theorem clone_any (b n c : Nat) (ao : Option Addr) (P : Nat → Option Addr) (w : World) (hn : n ≤ 4096) (ha : Hid (Row w ao n b P)) (h0 : Hid (ao = none → n = 0)) :
    Calls Yba.prog 6 #[.slice ao n c] w fun e w' => ∃ v, e = .returned v ∧ Below w.heap.size w w' ∧ w'.ownsRow w.heap.size 23 1 v n (pcells P n) := by
  obtain ⟨i0, hi, hz0, hz1, hz2⟩ := info_parts info23
  have HI : Hid (_ ∧ _ ∧ _ ∧ _) := ⟨hi, hz0, hz1, hz2⟩
  clear hi hz0 hz1 hz2
  have eq37 := fun (w : World) (a : Option Addr) (n c n' c' : Nat) => Lib.run_eql_slice_nil (P := Yba.prog) w 37 23 a n c n' c' Yba.underlying37
  cases ao with
  | none =>
    obtain rfl := h0.out rfl
    go_enter Yba.func6, Yba.ntmps6
    go_wp2
    go_ret
    exact ⟨_, rfl, Below.refl _ _, World.ownsRow_nil _ _ _ _⟩
  | some x =>
    have HN : Hid (∀ j u, (pcells P n)[j]? = some u → (w.alloc (.cells #[] 23)).cell? (x.add j) = some u) := by
      intro j u hu
      obtain ⟨hj, rfl⟩ := pcells_get P n j u hu
      obtain ⟨e, hc⟩ := ha.out (by omega)
      obtain rfl := Option.some.inj e
      rw [Addr.add_lit, Nat.zero_add, World.cell?_alloc_lt (h := World.block_lt_of_cell? _ _ (hc j hj))]
      exact hc j hj
    go_enter Yba.func6, Yba.ntmps6
    go_wp2_with (at_builtin; refine wpList_append_own _ (by rfl) (.tmp 5) (.tmp 6) 37 (by rfl) w.heap.size 23 i0 (.pointer none) 1 8 Yba.underlying37 HI.out.1 HI.out.2.1 HI.out.2.2.1 HI.out.2.2.2 (by rfl) (by decide) (.slice (some ⟨w.heap.size, 0, none⟩) 0 0) 0 [] (by rfl) (World.ownsRow_made w #[] 0 (Nat.le_refl _) (by decide) (by rfl)) x n c (pcells P n) (by rfl) (by rw [pcells_len]; omega) HN.out (pcells_one P n) (by unfold maxLen; omega) (by omega) (by simp) ?_; intro v' w1 hown' hgrow hn')
    have hb : Below w.heap.size w w1 := ((Below.refl _ w).alloc (Nat.le_refl _) _).grown hgrow (by simp) (fun k hk => by simp [Value.ownBlock] at hk; omega)
    have ho : w1.ownsRow w.heap.size 23 1 v' n (pcells P n) := by simpa using hown'
    clear hown' hgrow hn'
    go_wp2
    go_ret
    exact ⟨_, rfl, hb, ho⟩

set_option maxRecDepth 100000 in
set_option maxHeartbeats 1000000 in
theorem equal_any (b1 b2 n c1 c2 : Nat) (a1 a2 : Option Addr) (P : Nat → Option Addr) (w : World) (hn : n ≤ 4096) (h1 : Hid (Row w a1 n b1 P)) (h2 : Hid (Row w a2 n b2 P)) (lP : Hid (∀ i, i < n → Live w (P i))) :
    Calls Yba.prog 8 #[.slice a1 n c1, .slice a2 n c2] w fun e w' => e = .returned (.bool true) ∧ ∃ m, w' = w.drewN m := by
  go_enter Yba.func8, Yba.ntmps8
  go_wp2
  go_loopw [13] (fun i wr => ∃ k m : Nat, k ≤ n ∧ i = .int .i64 k ∧ wr = w.drewN m) (fun i _ => n - (intOf i).toNat)
  case atStart => exact ⟨0, 0, Nat.zero_le _, rfl, rfl⟩
  case round =>
    obtain ⟨k, m, hk, rfl, rfl⟩ := hrel
    by_cases hlt : k < n
    · obtain ⟨rfl, hcs⟩ := h1.out (by omega)
      obtain ⟨rfl, hds⟩ := h2.out (by omega)
      have hc1 : w.cell? ⟨b1, k, none⟩ = some (.pointer (P k)) := hcs k hlt
      have hc2 : w.cell? ⟨b2, k, none⟩ = some (.pointer (P k)) := hds k hlt
      have hq1 : ∀ m, Sem.run Yba.prog (binOp .neq 23 (.pointer (P k)) (.pointer (P k))) (w.drewN m) = .ok (.bool false) (w.drewN m) := fun m => by
        have := run_neq_legs (w.drewN m) (P k) (P k) (lP.out k hlt) (lP.out k hlt)
        simpa using this
      have hk0 : (0 : Int) ≤ (k : Int) := by omega
      have hkn : (k : Int) < (n : Int) := by omega
      clear hcs hds
      go_wp2
      go_quiet (fail)
      go_wp2
      go_roundw
      case rel => exact ⟨k + 1, _, by omega, by go_num, rfl⟩
      case measure => simp [intOf]; omega
    · obtain rfl : k = n := by omega
      go_wp2
      go_ret
      exact ⟨rfl, _, rfl⟩
end Go.Proofs.Ybulkdmwm.Legs
