import Derived.Test.YbulkdmvyRows
import Derived.WalkKit
import Derived.ProofKit
import Derived.Below
import Derived.WalkSpells
import Derived.WalkLawsBesides
import Derived.Deep.QuietTactic
import Derived.BigQuiet
import Derived.Deep.RegionHeld3
import Derived.IntWalk
namespace Go.Proofs.Ybulkdmvy.Lift
open Go.ChangeShapes Go.WideShapes Go.ChangeAt Go.RowKit
set_option linter.unusedSimpArgs false

/-- cmp.Compare of two numbers. -/
def cmp3 (a b : Nat) : Int := if a < b then -1 else if b < a then 1 else 0
/-- A virtual time: hi, lo. -/
def vt (h l : Nat) : Value := .agg #[.int .u64 (h : Int), .int .u64 (l : Int)]
def vcmp (h l h' l' : Nat) : Int := if cmp3 h h' = 0 then cmp3 l l' else cmp3 h h'

theorem new3 (w : World) (a b c : Obj) : (((w.alloc a).alloc b).alloc c).heap[w.heap.size + 1 + 1]? = some c := by
  have := heap_alloc_new ((w.alloc a).alloc b) c
  simpa using this
theorem new3_0 (w : World) (a b : Obj) (x y : Value) (t : TypeId) : (((w.alloc a).alloc b).alloc (.cells #[x, y] t)).cell? ⟨w.heap.size + 1 + 1, 0, none⟩ = some x := by
  rw [cell_of_row _ _ _ _ _ _ (new3 w a b _)]; rfl
theorem new3_1 (w : World) (a b : Obj) (x y : Value) (t : TypeId) : (((w.alloc a).alloc b).alloc (.cells #[x, y] t)).cell? ⟨w.heap.size + 1 + 1, 1, none⟩ = some y := by
  rw [cell_of_row _ _ _ _ _ _ (new3 w a b _)]; rfl
theorem old3 (w : World) (a b c : Obj) : (((w.alloc a).alloc b).alloc c).heap[w.heap.size]? = some a := by
  rw [heap_alloc_old (h := by simp; omega), heap_alloc_old (h := by simp)]; exact heap_alloc_new w a
theorem mid3 (w : World) (a b c : Obj) : (((w.alloc a).alloc b).alloc c).heap[w.heap.size + 1]? = some b := by
  rw [heap_alloc_old (h := by simp)]
  have := heap_alloc_new (w.alloc a) b
  simpa using this
theorem nan_any (a : Int) (w : World) : Calls Yba.prog 13 #[.int .u64 a] w fun e w' => e = .returned (.bool false) ∧ w' = w := by
  go_enter Yba.func13, Yba.ntmps13
  go_wp2
  go_ret
  exact ⟨rfl, rfl⟩
theorem compare_any (a b : Nat) (w : World) : Calls Yba.prog 12 #[.int .u64 (a : Int), .int .u64 (b : Int)] w fun e w' => e = .returned (.int .i64 (cmp3 a b)) ∧ w' = w := by
  by_cases h1 : a < b
  · have t1 : (a : Int) < (b : Int) := by omega
    have e : cmp3 a b = -1 := by simp [cmp3, h1]
    rw [e]
    clear h1 e
    go_enter Yba.func12, Yba.ntmps12
    go_wp2
    go_ret
    exact ⟨rfl, rfl⟩
  · by_cases h2 : b < a
    · have t1 : ¬ (a : Int) < (b : Int) := by omega
      have t2 : (b : Int) < (a : Int) := by omega
      have e : cmp3 a b = 1 := by simp [cmp3, h1, h2]
      rw [e]
      clear h1 h2 e
      go_enter Yba.func12, Yba.ntmps12
      go_wp2
      go_ret
      exact ⟨rfl, rfl⟩
    · have e : cmp3 a b = 0 := by simp [cmp3, h1, h2]
      obtain rfl : a = b := by omega
      rw [e]
      clear h1 h2 e
      go_enter Yba.func12, Yba.ntmps12
      go_wp2
      go_ret
      exact ⟨rfl, rfl⟩
theorem or_any (B : Nat) (x y : Int) (w : World) (h0 : w.cell? ⟨B, 0, none⟩ = some (.int .i64 x)) (h1 : w.cell? ⟨B, 1, none⟩ = some (.int .i64 y)) :
    Calls Yba.prog 11 #[.slice (some ⟨B, 0, none⟩) 2 2] w fun e w' => e = .returned (.int .i64 (if x = 0 then y else x)) ∧ w' = w := by
  have hc : Hid (∀ k, k < 2 → w.cell? ⟨B, k, none⟩ = some (.int .i64 (if k = 0 then x else y))) := fun k hk => by
    match k, hk with
    | 0, _ => exact h0
    | 1, _ => exact h1
  clear h0 h1
  generalize hr : (if x = 0 then y else x) = r
  have HR : Hid ((if x = 0 then y else x) = r) := hr
  clear hr
  go_enter Yba.func11, Yba.ntmps11
  go_wp2
  go_loop [8] (fun i => ∃ k : Nat, k ≤ 2 ∧ i = .int .i64 k ∧ Hid ((0 < k → x = 0) ∧ (1 < k → y = 0))) (fun i => 2 - (intOf i).toNat)
  case atStart => exact ⟨0, by omega, rfl, by omega, by omega⟩
  case round =>
    obtain ⟨k, hk, rfl, hinv⟩ := hrel
    by_cases hlt : k < 2
    · have hk1 := hc.out k hlt
      have hk0 : (0 : Int) ≤ (k : Int) := by omega
      have hkn : (k : Int) < 2 := by omega
      generalize hv : (if k = 0 then x else y) = v at hk1
      have HV : Hid ((if k = 0 then x else y) = v) := hv
      clear hv
      by_cases hz : v = 0
      · subst hz
        go_wp2
        go_round
        case rel =>
          refine ⟨k + 1, by omega, by go_num, fun _ => ?_, fun h => ?_⟩
          · by_cases e : k = 0
            · have := HV.out; rw [if_pos e] at this; exact this
            · exact hinv.out.1 (by omega)
          · have := HV.out; rw [if_neg (by omega)] at this; exact this
        case measure => simp [intOf]; omega
      · have t : (v == 0) = false := by rw [beq_eq_false_iff_ne]; exact hz
        have e : v = r := by
          have h1 := HV.out
          have h2 := HR.out
          by_cases e : k = 0
          · rw [if_pos e] at h1; subst h1; rw [if_neg hz] at h2; exact h2
          · rw [if_neg e] at h1; rw [if_pos (hinv.out.1 (by omega))] at h2; exact h1.symm.trans h2
        have HE : Hid (v = r) := e
        clear e
        go_wp2
        go_ret
        exact ⟨by rw [HE.out]; rfl, rfl⟩
    · have hk2 : 2 ≤ (k : Int) := by omega
      have e : r = 0 := by rw [← HR.out, if_pos (hinv.out.1 (by omega))]; exact hinv.out.2 (by omega)
      have HE : Hid (r = 0) := e
      clear e
      go_wp2
      go_ret
      exact ⟨by rw [HE.out]; rfl, rfl⟩

theorem or_vcmp (B : Nat) (h l h' l' : Nat) (w : World) (h0 : w.cell? ⟨B, 0, none⟩ = some (.int .i64 (cmp3 h h'))) (h1 : w.cell? ⟨B, 1, none⟩ = some (.int .i64 (cmp3 l l'))) :
    Calls Yba.prog 11 #[.slice (some ⟨B, 0, none⟩) 2 2] w fun e w' => e = .returned (.int .i64 (vcmp h l h' l')) ∧ w' = w := or_any B _ _ w h0 h1

set_option maxRecDepth 100000 in
set_option maxHeartbeats 1000000 in
theorem vcompare_any (h l h' l' : Nat) (w : World) : Calls Yba.prog 10 #[vt h l, vt h' l'] w fun e w' => e = .returned (.int .i64 (vcmp h l h' l')) ∧ Below w.heap.size w w' := by
  unfold vt
  go_enter Yba.func10, Yba.ntmps10
  go_wp2_with fail
  go_region_held3 (fun w' => w'.cell? ⟨w.heap.size, 0, none⟩ = some (.int .u64 (h : Int)) ∧ w'.cell? ⟨w.heap.size, 1, none⟩ = some (.int .u64 (l : Int)) ∧ w'.cell? ⟨w.heap.size + 1, 0, none⟩ = some (.int .u64 (h' : Int)) ∧ w'.cell? ⟨w.heap.size + 1, 1, none⟩ = some (.int .u64 (l' : Int))) (go_keep)
    (first
      | (go_at_call_of 12 (Value.int .u64 (h : Int)); refine (compare_any h h' _).mono ?_; rintro e w' ⟨rfl, rfl⟩)
      | (go_at_call_of 12 (Value.int .u64 (l : Int)); refine (compare_any l l' _).mono ?_; rintro e w' ⟨rfl, rfl⟩)
      | (go_at_call 11; refine (or_vcmp (w.heap.size + 1 + 1) h l h' l' _ (by simp; exact new3_0 _ _ _ _ _ _) (by simp; exact new3_1 _ _ _ _ _ _)).mono ?_; rintro e w' ⟨rfl, rfl⟩))
  go_wp2
  go_ret
  exact ⟨rfl, (((Below.refl _ w).alloc (Nat.le_refl _) _).alloc (by simp) _).alloc (by simp; omega) _ |>.drew⟩

/-- The later of two. -/
def later (h l h' l' : Nat) : Bool := decide (0 < vcmp h l h' l')
def vmax (h l h' l' : Nat) : Value := if later h' l' h l then vt h' l' else vt h l

set_option maxRecDepth 100000 in
set_option maxHeartbeats 1000000 in
theorem vmax_any (h l h' l' : Nat) (w : World) : Calls Yba.prog 9 #[vt h l, vt h' l'] w fun e w' => e = .returned (vmax h l h' l') ∧ Below w.heap.size w w' := by
  unfold vmax
  have HC := vcompare_any h' l' h l
  unfold vt at *
  have HC' : Hid (∀ (w : World), Calls Yba.prog 10 #[.agg #[.int .u64 (h' : Int), .int .u64 (l' : Int)], .agg #[.int .u64 (h : Int), .int .u64 (l : Int)]] w fun e w' => e = .returned (.int .i64 (vcmp h' l' h l)) ∧ Below w.heap.size w w') := HC
  clear HC
  cases hL : later h' l' h l
  all_goals
    have tL : decide (0 < vcmp h' l' h l) = later h' l' h l := rfl
    rw [hL] at tL
    clear hL
    simp only [if_true, Bool.false_eq_true, if_false]
    go_enter Yba.func9, Yba.ntmps9
    go_wp2_with fail
    refine (HC'.out _).mono ?_
    rintro e w' ⟨rfl, hb⟩
    have hs := hb.size
    simp at hs
    have e0 : w'.cell? ⟨w.heap.size, 0, none⟩ = some (.int .u64 (h : Int)) := (hb.cell (by simp; omega)).trans ((cell_of_row _ _ _ _ _ _ (old3 w _ _ _)).trans rfl)
    have e1 : w'.cell? ⟨w.heap.size, 1, none⟩ = some (.int .u64 (l : Int)) := (hb.cell (by simp; omega)).trans ((cell_of_row _ _ _ _ _ _ (old3 w _ _ _)).trans rfl)
    have e2 : w'.cell? ⟨w.heap.size + 1, 0, none⟩ = some (.int .u64 (h' : Int)) := (hb.cell (by simp)).trans ((cell_of_row _ _ _ _ _ _ (mid3 w _ _ _)).trans rfl)
    have e3 : w'.cell? ⟨w.heap.size + 1, 1, none⟩ = some (.int .u64 (l' : Int)) := (hb.cell (by simp)).trans ((cell_of_row _ _ _ _ _ _ (mid3 w _ _ _)).trans rfl)
    have e4 : w'.cell? ⟨w.heap.size + 1 + 1, 0, none⟩ = some (.int .u64 0) := (hb.cell (by simp)).trans (new3_0 w _ _ _ _ _)
    have e5 : w'.cell? ⟨w.heap.size + 1 + 1, 1, none⟩ = some (.int .u64 0) := (hb.cell (by simp)).trans (new3_1 w _ _ _ _ _)
    have f4 : w'.frozen? ⟨w.heap.size + 1 + 1, 0, none⟩ = false := (hb.frozen (by simp)).trans (frozen_of_row _ _ _ _ _ (new3 w _ _ _))
    have f5 : w'.frozen? ⟨w.heap.size + 1 + 1, 1, none⟩ = false := (hb.frozen (by simp)).trans (frozen_of_row _ _ _ _ _ (new3 w _ _ _))
    have HB : Hid (Below w.heap.size w w') := (((((Below.refl _ w).alloc (Nat.le_refl _) _).alloc (by simp) _).alloc (by simp; omega) _)).trans (hb.mono (by simp; omega))
    clear hb
    go_wp2
    refine bodyPost_ret (v := _) (by simp [results, Yba.results9, go_sem, e4, e5]) rfl ⟨rfl, (HB.out.setCell (by simp; omega) _).setCell (by simp; omega) _⟩

set_option maxRecDepth 100000 in
set_option maxHeartbeats 1000000 in
theorem zz_any (h l h' l' : Nat) (w : World) : Calls Yba.prog 7 #[vt h l, vt h' l'] w fun e w' => e = .returned (.int .i64 (vcmp h l h' l')) ∧ Below w.heap.size w w' := by
  unfold vt
  by_cases h1 : h < h'
  · have t1 : (h : Int) < (h' : Int) := by omega
    have e : vcmp h l h' l' = -1 := by simp [vcmp, cmp3, h1]
    rw [e]
    clear h1 e
    go_enter Yba.func7, Yba.ntmps7
    go_wp2
    go_ret
    exact ⟨rfl, ((Below.refl _ w).alloc (Nat.le_refl _) _).alloc (by simp) _⟩
  · by_cases h2 : h' < h
    · have t1 : ¬ (h : Int) < (h' : Int) := by omega
      have t2 : (h' : Int) < (h : Int) := by omega
      have e : vcmp h l h' l' = 1 := by simp [vcmp, cmp3, h1, h2]
      rw [e]
      clear h1 h2 e
      go_enter Yba.func7, Yba.ntmps7
      go_wp2
      go_ret
      exact ⟨rfl, ((Below.refl _ w).alloc (Nat.le_refl _) _).alloc (by simp) _⟩
    · obtain rfl : h = h' := by omega
      have e0 : vcmp h l h l' = cmp3 l l' := by simp [vcmp, cmp3]
      rw [e0]
      clear e0 h1 h2
      by_cases h1 : l < l'
      · have t1 : (l : Int) < (l' : Int) := by omega
        have e : cmp3 l l' = -1 := by simp [cmp3, h1]
        rw [e]
        clear h1 e
        go_enter Yba.func7, Yba.ntmps7
        go_wp2
        go_ret
        exact ⟨rfl, ((Below.refl _ w).alloc (Nat.le_refl _) _).alloc (by simp) _⟩
      · by_cases h2 : l' < l
        · have t1 : ¬ (l : Int) < (l' : Int) := by omega
          have t2 : (l' : Int) < (l : Int) := by omega
          have e : cmp3 l l' = 1 := by simp [cmp3, h1, h2]
          rw [e]
          clear h1 h2 e
          go_enter Yba.func7, Yba.ntmps7
          go_wp2
          go_ret
          exact ⟨rfl, ((Below.refl _ w).alloc (Nat.le_refl _) _).alloc (by simp) _⟩
        · obtain rfl : l = l' := by omega
          have e : cmp3 l l = 0 := by simp [cmp3]
          rw [e]
          clear h1 h2 e
          go_enter Yba.func7, Yba.ntmps7
          go_wp2
          go_ret
          exact ⟨rfl, ((Below.refl _ w).alloc (Nat.le_refl _) _).alloc (by simp) _⟩
end Go.Proofs.Ybulkdmvy.Lift
