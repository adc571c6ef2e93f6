/-
  'Rows.LawS5694AWholeSaid' PROVED. The frame as the shells of this house have it.
-/
import Derived.Test.YbulkdmxaLawA
import Derived.ProofKit
import Derived.OpenShut
import Derived.ChangeOld
import Derived.Deep.Slices
namespace Go.Proofs.Ybulkdmxa.lawS5694AWhole
open Go.ChangeShapes Go.WideShapes Go.ChangeAt Go.RowKit
set_option linter.unusedVariables false

theorem own : ownKnob Yba.prog.godebug = none := by kernel_rfl
theorem laidOut : laidOutB Yba.prog = true := by kernel_rfl

def IsRow (k : IntKind) (w : World) (a : Option Addr) (len cap : Nat) (zs : List Int) : Prop :=
  (a = none ∧ len = 0 ∧ cap = 0 ∧ zs = []) ∨
  ∃ x, a = some x ∧ len ≤ cap ∧ cap ≤ maxLen ∧ zs.length = cap ∧ (∀ i, i < zs.length → w.cell? (x.add i) = some (.int k (zs.getD i 0))) ∧ ∀ n ∈ zs, (Lit.int k n).wf = true

theorem wf_u8 {n : Int} (h : (Lit.int .u8 n).wf = true) : 0 ≤ n ∧ n ≤ 255 := by
  simp only [Lit.wf, Bool.and_eq_true, decide_eq_true_eq] at h
  exact h

/-- An incoming row of bytes, as the walk is told of it. -/
theorem isRow_u8 {w : World} {a : Option Addr} {len cap : Nat} {zs : List Int} (h : IsRow .u8 w a len cap zs) : ∃ b o, Keys.U8 w a len b o (fun i => (zs.getD i 0).toNat) := by
  rcases h with ⟨rfl, rfl, rfl, rfl⟩ | ⟨⟨b, off, spot⟩, rfl, hl, _, hz, hc, hw⟩
  · exact ⟨0, 0, fun h => by omega⟩
  · refine ⟨b, off, fun h0 => ?_⟩
    have hspot : spot = none := by simpa [Addr.add] using World.cell?_spot (hc 0 (by omega))
    subst hspot
    have hm : ∀ i, i < len → 0 ≤ zs.getD i 0 ∧ zs.getD i 0 ≤ 255 := fun i hi => by
      refine wf_u8 (hw _ ?_)
      rw [List.getD_eq_getElem?_getD, List.getElem?_eq_getElem (by omega)]
      exact List.getElem_mem _
    have hc' : ∀ i, i < len → w.cell? ⟨b, off + i, none⟩ = some (.int .u8 (zs.getD i 0)) := fun i hi => by
      rw [← Addr.add_lit]; exact hc i (by omega)
    refine ⟨rfl, World.block_lt_of_cell? _ _ (hc' 0 h0), fun i hi => ?_⟩
    rw [hc' i hi, Int.toNat_of_nonneg (hm i hi).1]

/-- An incoming slice of keys, opened to its bytes. -/
theorem open_keys {H : Type} {enc : TypeId × Value → H} {w : World} {base : Nat} {sp : Nat → Bool} {held : Bool} {fuel : Nat} {a : Option Addr} {len cap : Nat} {x : DataW H × List MemPlace}
    (h : DataW.trod enc Yba.prog w base sp held fuel 23 [.slice a len cap] = some x) : ∃ b o K, Keys.KRow w a len b o K := by
  have c26 : Yba.prog.cellsOf 26 = 32 := by kernel_rfl
  have c5 : Yba.prog.cellsOf 5 = 1 := by kernel_rfl
  rcases Deep.open_slice Yba.underlying23 h with ⟨hcs, _⟩ | ⟨ad, l, c, m, n, D, Pl, hcs, _, hl, _, hm, _, hx⟩
  · simp at hcs
    obtain ⟨rfl, rfl, rfl⟩ := hcs
    exact ⟨0, 0, fun _ => 0, fun h => by omega⟩
  · simp at hcs
    obtain ⟨rfl, rfl, rfl⟩ := hcs
    have hlm : len ≤ m := by rw [hm]; split <;> omega
    have each : ∀ t, t < len * 32 → ∃ k : Nat, w.cell? (ad.add t) = some (.int .u8 (k : Int)) := by
      intro t ht
      obtain ⟨cs', h1, h2⟩ := hx (t / 32) (by omega)
      rw [c26] at h1
      obtain ⟨_, hlen, hcell⟩ := World.cells?_some h1
      obtain ⟨xs, m', _, _, _, hxl, hf⟩ := DataW.trod_array Yba.underlying26 h2
      have hj : t % 32 < 32 := Nat.mod_lt _ (by omega)
      have g := hf (t % 32) hj
      rw [c5, List.getElem?_eq_getElem (by omega)] at g
      obtain ⟨k, hk, _, hwf⟩ := DataW.trod_int Yba.underlying5 g
      have hget : cs'[t % 32]? = some (.int .u8 k) := by
        have : ((cs'.drop (t % 32 * 1)).take 1)[0]? = some (.int .u8 k) := by rw [hk]; rfl
        simpa using this
      refine ⟨k.toNat, ?_⟩
      rw [Int.toNat_of_nonneg (wf_u8 hwf).1, ← hget, ← hcell _ hj, Deep.add_add]
      congr 2
      omega
    obtain ⟨K, hK⟩ := Deep.choose_lt each
    obtain ⟨b, off, spot⟩ := ad
    refine ⟨b, off, K, fun h0 => ?_⟩
    have hspot : spot = none := by simpa [Addr.add] using World.cell?_spot (hK 0 (by omega))
    subst hspot
    have hc' : ∀ i, i < len * 32 → w.cell? ⟨b, off + i, none⟩ = some (.int .u8 (K i : Int)) := fun i hi => by
      rw [← Addr.add_lit]; exact hK i hi
    exact ⟨rfl, World.block_lt_of_cell? _ _ (hc' 0 (by omega)), hc'⟩

theorem walk (a0 : Option Addr) (len0 cap0 : Nat) (z0 : List Int) (a1 : Option Addr) (len1 cap1 : Nat) (w : World) (w0 : IsRow .u8 w a0 len0 cap0 z0) (w1 : ∃ b o K, Keys.KRow w a1 len1 b o K) :
    Calls Yba.prog 3 #[.slice a0 len0 cap0, .slice a1 len1 cap1] w fun e w' => e = .returned (.bool true) ∧ Below w.heap.size w w' := by
  obtain ⟨b0, o0, u0⟩ := isRow_u8 w0
  obtain ⟨kb, ko, K, u1⟩ := w1
  by_cases hb : 1048576 < len0 ∨ 65536 < len1
  · exact Keys.lawA_big len0 cap0 len1 cap1 a0 a1 w hb
  · exact Keys.lawA len0 cap0 b0 o0 len1 cap1 kb ko a0 a1 _ K w (by omega) (by omega) u0 u1

set_option maxRecDepth 100000 in
theorem lifted (os : Os) (started : os.Started) (H : Type) (enc : TypeId × Value → H) :
    ReturnsInHanded {} Yba.checked os 3 .any (Rows.lawS5694AWholeSpec.pre6 enc Yba.prog Yba.f3 Rows.lawS5694AWholeRow.domain false) (Rows.lawS5694AWholeSpec.post enc Yba.prog Yba.f3 false true false false) := by
  refine returnsInHanded_of_change (C := Yba.checked) own started (by kernel_rfl) Yba.func3
    (ChangeSpec.witness6 (enc := enc) (C := Yba.checked) false ⟨#[], #[.slice none 0 0, .slice none 0 0], []⟩ 8 (by kernel_rfl) (by kernel_rfl) (by kernel_rfl) (by kernel_rfl)) ?_
  intro W base args ds gs before hval0 hW hcnd _
  have hval : ∀ (j : Nat) t v, Yba.f3.params[j]? = some t → args[j]? = some v → Value.okWide Yba.prog W .any base t v := hval0
  have hW' := hW
  obtain ⟨p, q, hA0, hV, rfl, hfz, hnd⟩ := hW
  have hA : DataW.TrodAll enc Yba.prog W 0 (fun _ => true) true Yba.f3.params.toList args.toList ds p := hA0
  rw [Yba.params3] at hA hval
  obtain ⟨v0, vs0, d0, ds0, p0, q0, hargs, rfl, rfl, h0, r0⟩ := trodAll_cons hA
  obtain ⟨v1, vs1, d1, ds1, p1, q1, rfl, rfl, rfl, h1, r1⟩ := trodAll_cons r0
  obtain ⟨rfl, rfl, rfl⟩ := trodAll_nil r1
  obtain rfl : args = #[v0, v1] := by cases args; simp_all
  obtain ⟨rfl, rfl⟩ := trodVars_none hV
  obtain ⟨a0, len0, cap0, rfl⟩ := okWide_slice Yba.underlying22 (hval 0 22 v0 rfl rfl)
  have k0 := h0
  have lt0 : ∀ x ∈ p0, x.block < W.heap.size := by obtain ⟨m, hm⟩ := k0; exact DataW.trod_lt m _ _ _ hm
  obtain ⟨z0, w0⟩ : ∃ zs, IsRow .u8 W a0 len0 cap0 zs := by
    obtain ⟨fuel, hf⟩ := h0
    rcases open_ints Yba.underlying22 Yba.underlying5 (by kernel_rfl) hf with ⟨hcs, _⟩ | ⟨x, l, c, zs, hcs, _, hl, hm, hz, _, hcell, hwz⟩
    · simp [Value.cells] at hcs
      obtain ⟨rfl, rfl, rfl⟩ := hcs
      exact ⟨[], .inl ⟨rfl, rfl, rfl, rfl⟩⟩
    · simp [Value.cells] at hcs
      obtain ⟨rfl, rfl, rfl⟩ := hcs
      exact ⟨zs, .inr ⟨_, rfl, hl, hm, by simpa using hz, hcell, hwz⟩⟩
  obtain ⟨a1, len1, cap1, rfl⟩ := okWide_slice Yba.underlying23 (hval 1 23 v1 rfl rfl)
  have k1 := h1
  have lt1 : ∀ x ∈ p1, x.block < W.heap.size := by obtain ⟨m, hm⟩ := k1; exact DataW.trod_lt m _ _ _ hm
  have w1 : ∃ b o K, Keys.KRow W a1 len1 b o K := by
    obtain ⟨fuel, hf⟩ := h1
    exact open_keys (by simpa [Value.cells] using hf)
  clear hA0 hval0
  refine (walk a0 len0 cap0 z0 a1 len1 cap1 W w0 w1).mono fun e W' ⟨he, bel⟩ => ?_
  subst he
  exact ⟨_, rfl, _, _, _, [], _, [], hW', trodAll_mk1 (shut_bool Yba.underlying4 _), (trodAll_cons_mk (Below.trod laidOut (by kernel_rfl) (of_decide_eq_true (by kernel_rfl)) k0 bel lt0) (trodAll_cons_mk (Below.trod laidOut (by kernel_rfl) (of_decide_eq_true (by kernel_rfl)) k1 bel lt1) trodAll_mk0)), rfl, bel.frame _, fun h => by cases h⟩

theorem over : Rows.lawS5694AWholeRow.holds Yba.pinned (OpenSpec.ofChange Rows.lawS5694AWholeSpec) :=
  OpenClaim.holds_of_wide 3 Yba.f3 rfl rfl rfl rfl rfl rfl rfl ⟨rfl, rfl, rfl, rfl, rfl⟩ rfl rfl rfl rfl rfl (by kernel_rfl) Yba.func3 (by kernel_rfl)
    (of_decide_eq_true (by kernel_rfl)) (by unfold Func.isWrapper; first | (rw [if_pos (by decide +kernel)]; kernel_rfl) | (rw [if_neg (by decide +kernel)]; exact ⟨rfl, rfl⟩))
    (fun os started H enc _ => lifted os started H enc)

/-- THE STATEMENT -/
theorem proved : Rows.LawS5694AWholeSaid := over
end Go.Proofs.Ybulkdmxa.lawS5694AWhole
