/-
  'Rows.LawS5692CWholeSaid' PROVED. The frame as the shells of this house have it.
-/
import Derived.Test.YbulkdmvyLawC
import Derived.ProofKit
import Derived.OpenShut
import Derived.ChangeOld
import Derived.Deep.Slices
namespace Go.Proofs.Ybulkdmvy.lawS5692CWhole
open Go.ChangeShapes Go.WideShapes Go.ChangeAt Go.RowKit
set_option linter.unusedVariables false

theorem own : ownKnob Yba.prog.godebug = none := by kernel_rfl
theorem laidOut : laidOutB Yba.prog = true := by kernel_rfl

theorem wf_u64 {n : Int} (h : (Lit.int .u64 n).wf = true) : 0 ≤ n := by
  simp only [Lit.wf, Bool.and_eq_true, decide_eq_true_eq] at h
  exact h.1
theorem wf_u32 {n : Int} (h : (Lit.int .u32 n).wf = true) : 0 ≤ n ∧ n ≤ 4294967295 := by
  simp only [Lit.wf, Bool.and_eq_true, decide_eq_true_eq] at h
  exact h

section
variable {H : Type} {enc : TypeId × Value → H} {w : World} {base : Nat} {sp : Nat → Bool} {held : Bool}

/-- A virtual time, opened to its two numbers. -/
theorem open_vt {fuel : Nat} {cs : List Value} {x : DataW H × List MemPlace} (h : DataW.trod enc Yba.prog w base sp held fuel 27 cs = some x) :
    ∃ a b : Nat, cs[0]? = some (.int .u64 (a : Int)) ∧ cs[1]? = some (.int .u64 (b : Int)) := by
  have c24 : Yba.prog.cellsOf 24 = 1 := by kernel_rfl
  obtain ⟨xs, k, hk, hxy, hl, hxl, hf⟩ := DataW.trod_struct Yba.underlying27 h
  have g0 : DataW.trod enc Yba.prog w base sp held k 24 ((cs.drop 0).take (Yba.prog.cellsOf 24)) = xs[0]? := hf 0 _ rfl
  have g1 : DataW.trod enc Yba.prog w base sp held k 24 ((cs.drop 1).take (Yba.prog.cellsOf 24)) = xs[1]? := hf 1 _ rfl
  rw [c24] at g0 g1
  have hx2 : xs.length = 2 := by simpa using hxl
  rw [List.getElem?_eq_getElem (by omega)] at g0 g1
  obtain ⟨a, ha, _, wa⟩ := DataW.trod_int Yba.underlying24 g0
  obtain ⟨b, hb, _, wb⟩ := DataW.trod_int Yba.underlying24 g1
  refine ⟨a.toNat, b.toNat, ?_, ?_⟩
  · rw [Int.toNat_of_nonneg (wf_u64 wa)]
    have : ((cs.drop 0).take 1)[0]? = some (.int .u64 a) := by rw [ha]; rfl
    simpa using this
  · rw [Int.toNat_of_nonneg (wf_u64 wb)]
    have : ((cs.drop 1).take 1)[0]? = some (.int .u64 b) := by rw [hb]; rfl
    simpa using this

theorem open_cb {fuel : Nat} {a : Option Addr} {len cap : Nat} {x : DataW H × List MemPlace}
    (h : DataW.trod enc Yba.prog w base sp held fuel 22 [.slice a len cap] = some x) : ∃ b o Hh Ll, Lift.CIn w a len b o Hh Ll := by
  have c27 : Yba.prog.cellsOf 27 = 2 := by kernel_rfl
  rcases Deep.open_slice Yba.underlying22 h with ⟨hcs, _⟩ | ⟨ad, l, c, m, n, D, Pl, hcs, _, hl, _, hm, _, hx⟩
  · simp at hcs
    obtain ⟨rfl, rfl, rfl⟩ := hcs
    exact ⟨0, 0, fun _ => 0, fun _ => 0, fun h => by omega⟩
  · simp at hcs
    obtain ⟨rfl, rfl, rfl⟩ := hcs
    have hlm : len ≤ m := by rw [hm]; split <;> omega
    have each : ∀ t, t < len → ∃ q : Nat × Nat, w.cell? (ad.add (t * 2)) = some (.int .u64 (q.1 : Int)) ∧ w.cell? (ad.add (t * 2 + 1)) = some (.int .u64 (q.2 : Int)) := by
      intro t ht
      obtain ⟨cs', h1, h2⟩ := hx t (by omega)
      rw [c27] at h1
      obtain ⟨_, hlen, hcell⟩ := World.cells?_some h1
      obtain ⟨p, q, hp, hq⟩ := open_vt h2
      refine ⟨(p, q), ?_, ?_⟩
      · have := (hcell 0 (by omega)).trans hp
        rwa [Deep.add_add, Nat.add_zero] at this
      · have := (hcell 1 (by omega)).trans hq
        rwa [Deep.add_add] at this
    obtain ⟨K, hK⟩ := Deep.choose_lt each
    obtain ⟨b, off, spot⟩ := ad
    refine ⟨b, off, fun i => (K i).1, fun i => (K i).2, fun h0 => ?_⟩
    have hspot : spot = none := by simpa [Addr.add] using World.cell?_spot (hK 0 (by omega)).1
    subst hspot
    have hc' : ∀ i, i < len → w.cell? ⟨b, off + i * 2, none⟩ = some (.int .u64 ((K i).1 : Int)) ∧ w.cell? ⟨b, off + i * 2 + 1, none⟩ = some (.int .u64 ((K i).2 : Int)) := fun i hi => by
      have := hK i hi
      rw [Addr.add_lit, Addr.add_lit, ← Nat.add_assoc] at this
      exact this
    exact ⟨rfl, World.block_lt_of_cell? _ _ (hc' 0 h0).1, hc'⟩

theorem open_ll {fuel : Nat} {a : Option Addr} {len cap : Nat} {x : DataW H × List MemPlace}
    (h : DataW.trod enc Yba.prog w base sp held fuel 23 [.slice a len cap] = some x) : ∃ b o Z Th Tl, Lift.LIn w a len b o Z Th Tl := by
  have c33 : Yba.prog.cellsOf 33 = 3 := by kernel_rfl
  have c27 : Yba.prog.cellsOf 27 = 2 := by kernel_rfl
  have c31 : Yba.prog.cellsOf 31 = 1 := by kernel_rfl
  rcases Deep.open_slice Yba.underlying23 h with ⟨hcs, _⟩ | ⟨ad, l, c, m, n, D, Pl, hcs, _, hl, _, hm, _, hx⟩
  · simp at hcs
    obtain ⟨rfl, rfl, rfl⟩ := hcs
    exact ⟨0, 0, fun _ => 0, fun _ => 0, fun _ => 0, fun h => by omega⟩
  · simp at hcs
    obtain ⟨rfl, rfl, rfl⟩ := hcs
    have hlm : len ≤ m := by rw [hm]; split <;> omega
    have each : ∀ t, t < len → ∃ q : Nat × Nat × Nat, (w.cell? (ad.add (t * 3)) = some (.int .u32 (q.1 : Int)) ∧ q.1 < 4294967296) ∧ w.cell? (ad.add (t * 3 + 1)) = some (.int .u64 (q.2.1 : Int)) ∧ w.cell? (ad.add (t * 3 + 2)) = some (.int .u64 (q.2.2 : Int)) := by
      intro t ht
      obtain ⟨cs', h1, h2⟩ := hx t (by omega)
      rw [c33] at h1
      obtain ⟨_, hlen, hcell⟩ := World.cells?_some h1
      obtain ⟨xs, k, hk, hxy, _, hxl, hf⟩ := DataW.trod_struct Yba.underlying33 h2
      have g0 : DataW.trod enc Yba.prog w base sp held k 31 ((cs'.drop 0).take (Yba.prog.cellsOf 31)) = xs[0]? := hf 0 _ rfl
      have g1 : DataW.trod enc Yba.prog w base sp held k 27 ((cs'.drop 1).take (Yba.prog.cellsOf 27)) = xs[1]? := hf 1 _ rfl
      rw [c31] at g0
      rw [c27] at g1
      have hx2 : xs.length = 2 := by simpa using hxl
      rw [List.getElem?_eq_getElem (by omega)] at g0 g1
      obtain ⟨z, hz, _, wz⟩ := DataW.trod_int Yba.underlying31 g0
      obtain ⟨p, q, hp, hq⟩ := open_vt g1
      have hz0 : cs'[0]? = some (.int .u32 z) := by
        have : ((cs'.drop 0).take 1)[0]? = some (.int .u32 z) := by rw [hz]; rfl
        simpa using this
      have hp1 : cs'[1]? = some (.int .u64 (p : Int)) := by simpa using hp
      have hq1 : cs'[2]? = some (.int .u64 (q : Int)) := by simpa using hq
      have hb := wf_u32 wz
      refine ⟨(z.toNat, p, q), ⟨?_, ?_⟩, ?_, ?_⟩
      · have := (hcell 0 (by omega)).trans hz0
        rw [Deep.add_add, Nat.add_zero] at this
        rw [this, Int.toNat_of_nonneg hb.1]
      · show z.toNat < _
        omega
      · have := (hcell 1 (by omega)).trans hp1
        rwa [Deep.add_add] at this
      · have := (hcell 2 (by omega)).trans hq1
        rwa [Deep.add_add] at this
    obtain ⟨K, hK⟩ := Deep.choose_lt each
    obtain ⟨b, off, spot⟩ := ad
    refine ⟨b, off, fun i => (K i).1, fun i => (K i).2.1, fun i => (K i).2.2, fun h0 => ?_⟩
    have hspot : spot = none := by simpa [Addr.add] using World.cell?_spot (hK 0 (by omega)).1.1
    subst hspot
    have hc' : ∀ i, i < len → (w.cell? ⟨b, off + i * 3, none⟩ = some (.int .u32 ((K i).1 : Int)) ∧ (K i).1 < 4294967296) ∧ w.cell? ⟨b, off + i * 3 + 1, none⟩ = some (.int .u64 ((K i).2.1 : Int)) ∧ w.cell? ⟨b, off + i * 3 + 1 + 1, none⟩ = some (.int .u64 ((K i).2.2 : Int)) := fun i hi => by
      have := hK i hi
      rw [Addr.add_lit, Addr.add_lit, Addr.add_lit, ← Nat.add_assoc, ← Nat.add_assoc] at this
      exact this
    exact ⟨rfl, World.block_lt_of_cell? _ _ (hc' 0 h0).1.1, hc'⟩
end

theorem walk (a0 : Option Addr) (len0 cap0 : Nat) (a1 : Option Addr) (len1 cap1 : Nat) (n2 n3 : Int) (h2 : 0 ≤ n2) (h3 : 0 ≤ n3) (w : World) (w0 : ∃ b o Hh Ll, Lift.CIn w a0 len0 b o Hh Ll) (w1 : ∃ b o Z Th Tl, Lift.LIn w a1 len1 b o Z Th Tl) :
    Calls Yba.prog 3 #[.slice a0 len0 cap0, .slice a1 len1 cap1, .int .u64 n2, .int .u64 n3] w fun e w' => e = .returned (.bool true) ∧ Below w.heap.size w w' := by
  obtain ⟨b0, o0, Hh, Ll, u0⟩ := w0
  obtain ⟨b1, o1, Z, Th, Tl, u1⟩ := w1
  by_cases hb : 4096 < len0 ∨ 4096 < len1
  · exact Lift.lawC_big len0 cap0 len1 cap1 a0 a1 n2 n3 w hb
  · have := Lift.lawC len0 cap0 b0 o0 len1 cap1 b1 o1 a0 a1 Hh Ll Z Th Tl n2.toNat n3.toNat w (by omega) (by omega) u0 u1
    rw [Int.toNat_of_nonneg h2, Int.toNat_of_nonneg h3] at this
    exact this

set_option maxRecDepth 100000 in
theorem lifted (os : Os) (started : os.Started) (H : Type) (enc : TypeId × Value → H) :
    ReturnsInHanded {} Yba.checked os 3 .any (Rows.lawS5692CWholeSpec.pre6 enc Yba.prog Yba.f3 Rows.lawS5692CWholeRow.domain false) (Rows.lawS5692CWholeSpec.post enc Yba.prog Yba.f3 false true false false) := by
  refine returnsInHanded_of_change (C := Yba.checked) own started (by kernel_rfl) Yba.func3
    (ChangeSpec.witness6 (enc := enc) (C := Yba.checked) false ⟨#[], #[.slice none 0 0, .slice none 0 0, .int .u64 0, .int .u64 0], []⟩ 8 (by kernel_rfl) (by kernel_rfl) (by kernel_rfl) (by kernel_rfl)) ?_
  intro W base args ds gs before hval0 hW hcnd _
  have hval : ∀ (j : Nat) t v, Yba.f3.params[j]? = some t → args[j]? = some v → Value.okWide Yba.prog W .any base t v := hval0
  have hW' := hW
  obtain ⟨p, q, hA0, hV, rfl, hfz, hnd⟩ := hW
  have hA : DataW.TrodAll enc Yba.prog W 0 (fun _ => true) true Yba.f3.params.toList args.toList ds p := hA0
  rw [Yba.params3] at hA hval
  obtain ⟨v0, vs0, d0, ds0, p0, q0, hargs, rfl, rfl, h0, r0⟩ := trodAll_cons hA
  obtain ⟨v1, vs1, d1, ds1, p1, q1, rfl, rfl, rfl, h1, r1⟩ := trodAll_cons r0
  obtain ⟨v2, vs2, d2, ds2, p2, q2, rfl, rfl, rfl, h2, r2⟩ := trodAll_cons r1
  obtain ⟨v3, vs3, d3, ds3, p3, q3, rfl, rfl, rfl, h3, r3⟩ := trodAll_cons r2
  obtain ⟨rfl, rfl, rfl⟩ := trodAll_nil r3
  obtain rfl : args = #[v0, v1, v2, v3] := by cases args; simp_all
  obtain ⟨rfl, rfl⟩ := trodVars_none hV
  obtain ⟨a0, len0, cap0, rfl⟩ := okWide_slice Yba.underlying22 (hval 0 22 v0 rfl rfl)
  have k0 := h0
  have lt0 : ∀ x ∈ p0, x.block < W.heap.size := by obtain ⟨m, hm⟩ := k0; exact DataW.trod_lt m _ _ _ hm
  have w0 : ∃ b o Hh Ll, Lift.CIn W a0 len0 b o Hh Ll := by
    obtain ⟨fuel, hf⟩ := h0
    exact open_cb (by simpa [Value.cells] using hf)
  obtain ⟨a1, len1, cap1, rfl⟩ := okWide_slice Yba.underlying23 (hval 1 23 v1 rfl rfl)
  have k1 := h1
  have lt1 : ∀ x ∈ p1, x.block < W.heap.size := by obtain ⟨m, hm⟩ := k1; exact DataW.trod_lt m _ _ _ hm
  have w1 : ∃ b o Z Th Tl, Lift.LIn W a1 len1 b o Z Th Tl := by
    obtain ⟨fuel, hf⟩ := h1
    exact open_ll (by simpa [Value.cells] using hf)
  obtain ⟨n2, rfl, rfl, rfl, w2⟩ := open_int Yba.underlying24 (hval 2 24 v2 rfl rfl) h2
  obtain ⟨n3, rfl, rfl, rfl, w3⟩ := open_int Yba.underlying24 (hval 3 24 v3 rfl rfl) h3
  clear hA0 hval0
  refine (walk a0 len0 cap0 a1 len1 cap1 n2 n3 (wf_u64 w2) (wf_u64 w3) W w0 w1).mono fun e W' ⟨he, bel⟩ => ?_
  subst he
  exact ⟨_, rfl, _, _, _, [], _, [], hW', trodAll_mk1 (shut_bool Yba.underlying4 _), (trodAll_cons_mk (Below.trod laidOut (by kernel_rfl) (of_decide_eq_true (by kernel_rfl)) k0 bel lt0) (trodAll_cons_mk (Below.trod laidOut (by kernel_rfl) (of_decide_eq_true (by kernel_rfl)) k1 bel lt1) (trodAll_cons_mk (shut_int Yba.underlying24 w2) (trodAll_cons_mk (shut_int Yba.underlying24 w3) trodAll_mk0)))), rfl, bel.frame _, fun h => by cases h⟩

theorem over : Rows.lawS5692CWholeRow.holds Yba.pinned (OpenSpec.ofChange Rows.lawS5692CWholeSpec) :=
  OpenClaim.holds_of_wide 3 Yba.f3 rfl rfl rfl rfl rfl rfl rfl ⟨rfl, rfl, rfl, rfl, rfl⟩ rfl rfl rfl rfl rfl (by kernel_rfl) Yba.func3 (by kernel_rfl)
    (of_decide_eq_true (by kernel_rfl)) (by unfold Func.isWrapper; first | (rw [if_pos (by decide +kernel)]; kernel_rfl) | (rw [if_neg (by decide +kernel)]; exact ⟨rfl, rfl⟩))
    (fun os started H enc _ => lifted os started H enc)

/-- THE STATEMENT -/
theorem proved : Rows.LawS5692CWholeSaid := over
end Go.Proofs.Ybulkdmvy.lawS5692CWhole
