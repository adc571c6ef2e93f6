import Derived.Test.YbulkdmvyRowsOf
namespace Go.Proofs.Ybulkdmvy.Lift
open Go.ChangeShapes Go.WideShapes Go.ChangeAt Go.RowKit
set_option linter.unusedSimpArgs false

/-- The comebacks as they came in. -/
def CIn (w : World) (ao : Option Addr) (n b o : Nat) (H L : Nat → Nat) : Prop := 0 < n → ao = some ⟨b, o, none⟩ ∧ b < w.heap.size ∧ ∀ i, i < n → w.cell? ⟨b, o + i * 2, none⟩ = some (.int .u64 (H i : Int)) ∧ w.cell? ⟨b, o + i * 2 + 1, none⟩ = some (.int .u64 (L i : Int))
/-- The lifts as they came in. -/
def LIn (w : World) (ao : Option Addr) (n b o : Nat) (Z TH TL : Nat → Nat) : Prop := 0 < n → ao = some ⟨b, o, none⟩ ∧ b < w.heap.size ∧ ∀ i, i < n → (w.cell? ⟨b, o + i * 3, none⟩ = some (.int .u32 (Z i : Int)) ∧ Z i < 4294967296) ∧ w.cell? ⟨b, o + i * 3 + 1, none⟩ = some (.int .u64 (TH i : Int)) ∧ w.cell? ⟨b, o + i * 3 + 1 + 1, none⟩ = some (.int .u64 (TL i : Int))
def remN (Z : Nat → Nat) (n : Nat) : Nat → Nat
  | 0 => n
  | m + 1 => remN Z n m - Z m % (remN Z n m + 1)
def runN (Z : Nat → Nat) (n m : Nat) : Nat := Z m % (remN Z n m + 1)
theorem remN_offs (Z : Nat → Nat) (n : Nat) : ∀ m, remN Z n m + offs (runN Z n) m = n
  | 0 => rfl
  | m + 1 => by
    have ih := remN_offs Z n m
    have : Z m % (remN Z n m + 1) ≤ remN Z n m := Nat.lt_succ_iff.1 (Nat.mod_lt _ (Nat.succ_pos _))
    show remN Z n m - Z m % (remN Z n m + 1) + (offs (runN Z n) m + Z m % (remN Z n m + 1)) = n
    omega

theorem rem_cast (Z : Nat → Nat) (n p : Nat) : (remN Z n p : Int) - (Z p : Int) % ((remN Z n p : Int) + 1) = ((remN Z n (p + 1) : Nat) : Int) := by
  have h : Z p % (remN Z n p + 1) ≤ remN Z n p := Nat.lt_succ_iff.1 (Nat.mod_lt _ (Nat.succ_pos _))
  show _ = ((remN Z n p - Z p % (remN Z n p + 1) : Nat) : Int)
  rw [Int.ofNat_sub h]
  simp
theorem ls_row {w : World} {base m : Nat} {v : Value} {N TH TL : Nat → Nat} (h : LS w base v m N TH TL) : ∃ ao b cap, v = .slice ao m cap ∧ LRow w ao m b N TH TL ∧ base ≤ b := by
  obtain ⟨xs, ho, _, hv⟩ := h
  obtain ⟨ao, g, cap, e, h0, h1⟩ := own_form ho
  by_cases hm : m = 0
  · exact ⟨ao, base, cap, e, fun h => by omega, Nat.le_refl _⟩
  · cases ao with
    | none => exact absurd (h0 rfl) hm
    | some x =>
      obtain ⟨rfl, hb, hc⟩ := h1 x rfl
      exact ⟨_, g, cap, e, fun _ => ⟨rfl, fun i hi => ⟨(hc _ (by omega)).trans (hv i hi).1, (hc _ (by omega)).trans (hv i hi).2.1, (hc _ (by omega)).trans (hv i hi).2.2⟩⟩, hb⟩
theorem vblk_made {w1 : World} {base n B : Nat} {xs : List Value} {H L : Nat → Nat} (h : w1.ownsRow base 29 2 (.slice (some ⟨B, 0, none⟩) n n) n xs) : VBlk w1 B n 0 H L := by
  rcases h.2 with ⟨h', _⟩ | ⟨g, cap, cur, h', _, hgg, _, _, hcs, _⟩
  · simp at h'
  · simp only [Value.slice.injEq, Option.some.injEq, Addr.mk.injEq, and_true, true_and] at h'
    obtain ⟨rfl, rfl⟩ := h'
    exact ⟨cur, hgg, hcs, fun k hk => by omega⟩
theorem grown_below {w w1 : World} (hg : w.grownBy w1 none) : Below w.heap.size w w1 := ⟨hg.os, hg.tape, hg.output, hg.size, fun k hk => hg.block k hk (by simp)⟩

theorem ls_start {w : World} {base n : Nat} {v : Value} {N TH TL : Nat → Nat} (h : w.ownsRow base 35 3 v n []) (h0 : n = 0) : LS w base v n N TH TL :=
  ⟨[], h, by simp, fun k hk => by omega⟩
theorem ls_step {w' : World} {base q : Nat} {v : Value} {N TH TL : Nat → Nat} {xs : List Value} {x : Int} (hx : x = (N q : Int)) (hl : xs.length = q * 3) (h1 : ∀ u ∈ xs, u.oneCell' = true)
    (hv : ∀ k, k < q → xs[k * 3]? = some (.int .i64 (N k : Int)) ∧ xs[k * 3 + 1]? = some (.int .u64 (TH k : Int)) ∧ xs[k * 3 + 2]? = some (.int .u64 (TL k : Int)))
    (ho : w'.ownsRow base 35 3 v (q + 1) (xs ++ [.int .i64 x, .int .u64 (TH q : Int), .int .u64 (TL q : Int)])) : LS w' base v (q + 1) N TH TL := by
  subst hx
  refine ⟨_, ho, fun u hu => ?_, fun k hk => ?_⟩
  · rcases List.mem_append.1 hu with h | h
    · exact h1 u h
    · simp at h; rcases h with rfl | rfl | rfl <;> rfl
  · by_cases e : k = q
    · subst e
      refine ⟨?_, ?_, ?_⟩
      · rw [List.getElem?_append_right (by omega), hl, Nat.sub_self]; rfl
      · rw [List.getElem?_append_right (by omega), hl, show k * 3 + 1 - k * 3 = 1 by omega]; rfl
      · rw [List.getElem?_append_right (by omega), hl, show k * 3 + 2 - k * 3 = 2 by omega]; rfl
    · obtain ⟨a, b, c⟩ := hv k (by omega)
      exact ⟨by rw [List.getElem?_append_left (by omega)]; exact a, by rw [List.getElem?_append_left (by omega)]; exact b, by rw [List.getElem?_append_left (by omega)]; exact c⟩
theorem owns_below {w w' : World} {base e size n : Nat} {v : Value} {xs : List Value} (h : w.ownsRow base e size v n xs) (hb : Below w.heap.size w w') : w'.ownsRow base e size v n xs :=
  h.kept (row := none) ⟨hb.os, hb.tape, hb.output, hb.size, fun k hk _ => hb.block k hk⟩ (by cases v.ownBlock <;> simp)
theorem owns_drew {w : World} {base e size n : Nat} {v : Value} {xs : List Value} (h : w.ownsRow base e size v n xs) : w.drew.ownsRow base e size v n xs := owns_below h (Below.refl _ _).drew
theorem step_bel {w wr w1 : World} {o : Obj} {v : Value} {B : Nat} (hb : Below B w wr) (hB : B ≤ wr.heap.size) (hv : ∀ b, v.ownBlock = some b → B ≤ b) (hg : (wr.drew.alloc o).grownBy w1 v.ownBlock) : Below B w w1 :=
  (hb.drew.alloc (by simpa using hB) o).grown hg (by simp; omega) hv
theorem LS.below {w w' : World} {base m : Nat} {v : Value} {N TH TL : Nat → Nat} (h : LS w base v m N TH TL) (hb : Below w.heap.size w w') : LS w' base v m N TH TL := by
  obtain ⟨xs, ho, r⟩ := h; exact ⟨xs, owns_below ho hb, r⟩

/-- What stands ahead of liftComebacks. -/
structure Pre (w W : World) (FB VB LB CB MB n M lc cc mc : Nat) (lo co mo : Option Addr) (H L N TH TL : Nat → Nat) (vh vl : Nat) : Prop where
  bel : Below w.heap.size w W
  hc : W.cell? ⟨FB, 15, none⟩ = some (.slice (some ⟨w.heap.size, 0, none⟩) n n)
  hl : W.cell? ⟨FB, 16, none⟩ = some (.slice lo M lc)
  v0 : W.cell? ⟨FB, 3, none⟩ = some (.int .u64 (vh : Int))
  v1 : W.cell? ⟨FB, 4, none⟩ = some (.int .u64 (vl : Int))
  fr : ∀ j, W.frozen? ⟨FB, j, none⟩ = false
  blk : VBlk W w.heap.size n n H L
  ll : LRow W lo M LB N TH TL
  cb : VRow W co n CB H L
  ml : LRow W mo M MB N TH TL
  x0 : W.cell? ⟨VB, 0, none⟩ = some (.int .u64 (vh : Int))
  x1 : W.cell? ⟨VB, 1, none⟩ = some (.int .u64 (vl : Int))
  nF : w.heap.size < FB
  nV : w.heap.size < VB ∧ VB ≠ FB
  nL : 0 < M → w.heap.size < LB ∧ LB ≠ FB
  nC : 0 < n → w.heap.size < CB ∧ CB ≠ FB
  nM : 0 < M → w.heap.size < MB ∧ MB ≠ FB

theorem two_alloc (W : World) (a b : Obj) (k : Nat) (h : k < W.heap.size) : ((W.alloc a).alloc b).heap[k]? = W.heap[k]? := by
  rw [heap_alloc_old (h := by simp; omega), heap_alloc_old (h := h)]
theorem two_fst (W : World) (a b : Obj) : ((W.alloc a).alloc b).heap[W.heap.size]? = some a := by
  rw [heap_alloc_old (h := by simp)]; exact heap_alloc_new W a
theorem two_snd (W : World) (a b : Obj) : ((W.alloc a).alloc b).heap[W.heap.size + 1]? = some b := by
  have := heap_alloc_new (W.alloc a) b
  simpa using this

theorem pre_mk {w W1 W2 W3 W4 : World} {LB CB MB n M lc cc mc : Nat} {lo co mo : Option Addr} {H L N TH TL : Nat → Nat} {vh vl : Nat} {cs : Array Value}
    (hB : Below w.heap.size w W2) (hV : VBlk W2 w.heap.size n n H L) (h1 : w.heap.size < W1.heap.size) (hL : LRow W2 lo M LB N TH TL ∧ W1.heap.size ≤ LB) (h3 : Below W2.heap.size W2 W3) (hC : VRow W3 co n CB H L ∧ W2.heap.size ≤ CB)
    (h4 : Below W3.heap.size W3 W4) (hM : LRow W4 mo M MB N TH TL ∧ W3.heap.size ≤ MB) (hcs : cs[15]? = some (.slice (some ⟨w.heap.size, 0, none⟩) n n)) (hcl : cs[16]? = some (.slice lo M lc)) (hc3 : cs[3]? = some (.int .u64 (vh : Int))) (hc4 : cs[4]? = some (.int .u64 (vl : Int))) :
    Pre w ((W4.alloc (.cells #[.int .u64 (vh : Int), .int .u64 (vl : Int)] 29)).alloc (.cells cs 45)) (W4.heap.size + 1) W4.heap.size LB CB MB n M lc cc mc lo co mo H L N TH TL vh vl := by
  have s2 := hV.lt
  have s3 := h3.size
  have s4 := h4.size
  have hF := two_snd W4 (.cells #[.int .u64 (vh : Int), .int .u64 (vl : Int)] 29) (.cells cs 45)
  have hX := two_fst W4 (.cells #[.int .u64 (vh : Int), .int .u64 (vl : Int)] 29) (.cells cs 45)
  have old := fun k h => two_alloc W4 (.cells #[.int .u64 (vh : Int), .int .u64 (vl : Int)] 29) (.cells cs 45) k h
  have old2 : ∀ k, k < W2.heap.size → ((W4.alloc (.cells #[.int .u64 (vh : Int), .int .u64 (vl : Int)] 29)).alloc (.cells cs 45)).heap[k]? = W2.heap[k]? := fun k hk => (old k (by omega)).trans ((h4.block k (by omega)).trans (h3.block k hk))
  refine ⟨?_, ?_, ?_, ?_, ?_, fun j => frozen_of_row _ _ _ _ _ hF, hV.same (old2 _ s2), hL.1.same (fun h => old2 _ (hL.1.lt h)), ?_, ?_, ?_, ?_, by omega, ⟨by omega, by omega⟩, fun h => ?_, fun h => ?_, fun h => ?_⟩
  · exact ((((hB.trans (h3.mono (by omega))).trans (h4.mono (by omega))).alloc (by omega) _).alloc (by simp; omega) _)
  · rw [cell_of_row _ _ _ _ _ _ hF]; exact hcs
  · rw [cell_of_row _ _ _ _ _ _ hF]; exact hcl
  · rw [cell_of_row _ _ _ _ _ _ hF]; exact hc3
  · rw [cell_of_row _ _ _ _ _ _ hF]; exact hc4
  · exact hC.1.same (fun h => (old _ (by have := hC.1.lt h; omega)).trans (h4.block _ (hC.1.lt h)))
  · exact hM.1.same (fun h => old _ (hM.1.lt h))
  · rw [cell_of_row _ _ _ _ _ _ hX]; rfl
  · rw [cell_of_row _ _ _ _ _ _ hX]; rfl
  · have := hL.1.lt h; have := hL.2; exact ⟨by omega, by omega⟩
  · have := hC.1.lt h; have := hC.2; exact ⟨by omega, by omega⟩
  · have := hM.1.lt h; have := hM.2; exact ⟨by omega, by omega⟩

/-- What stands behind it. -/
structure Post (w W : World) (FB VB LB CB MB n M lc : Nat) (lo co mo : Option Addr) (H L EH EL N TH TL : Nat → Nat) (vh vl xh xl : Nat) : Prop where
  bel : Below w.heap.size w W
  hc : W.cell? ⟨FB, 15, none⟩ = some (.slice (some ⟨w.heap.size, 0, none⟩) n n)
  hl : W.cell? ⟨FB, 16, none⟩ = some (.slice lo M lc)
  v0 : W.cell? ⟨FB, 3, none⟩ = some (.int .u64 (xh : Int))
  v1 : W.cell? ⟨FB, 4, none⟩ = some (.int .u64 (xl : Int))
  blk : VBlk W w.heap.size n n EH EL
  ll : LRow W lo M LB N TH TL
  cb : VRow W co n CB H L
  ml : LRow W mo M MB N TH TL
  x0 : W.cell? ⟨VB, 0, none⟩ = some (.int .u64 (vh : Int))
  x1 : W.cell? ⟨VB, 1, none⟩ = some (.int .u64 (vl : Int))

theorem cellOf {w w' : World} {p : Addr} {v : Value} (h : w.cell? p = some v) (e : w'.heap[p.block]? = w.heap[p.block]?) : w'.cell? p = some v := (World.cell?_of_block (w := w) e).trans h
theorem Post.keep {w W W' : World} {FB VB LB CB MB n M lc : Nat} {lo co mo : Option Addr} {H L EH EL N TH TL : Nat → Nat} {vh vl xh xl : Nat} (h : Post w W FB VB LB CB MB n M lc lo co mo H L EH EL N TH TL vh vl xh xl) (hb : Below W.heap.size W W') :
    Post w W' FB VB LB CB MB n M lc lo co mo H L EH EL N TH TL vh vl xh xl :=
  have c : ∀ {p v}, W.cell? p = some v → W'.cell? p = some v := fun hp => (hb.cell (World.block_lt_of_cell? _ _ hp)).trans hp
  ⟨h.bel.trans (hb.mono h.bel.size), c h.hc, c h.hl, c h.v0, c h.v1, h.blk.same (hb.block _ h.blk.lt), h.ll.same (fun h0 => hb.block _ (h.ll.lt h0)), h.cb.same (fun h0 => hb.block _ (h.cb.lt h0)), h.ml.same (fun h0 => hb.block _ (h.ml.lt h0)), c h.x0, c h.x1⟩

theorem post_mk {w W W1 : World} {FB VB LB CB MB n M lc cc mc : Nat} {lo co mo : Option Addr} {H L EH EL N TH TL : Nat → Nat} {vh vl : Nat} {b : Bool} {e : Nat × Nat} (h : Pre w W FB VB LB CB MB n M lc cc mc lo co mo H L N TH TL vh vl)
    (hk : Kp w.heap.size W W1) (hV : VBlk W1 w.heap.size n n EH EL) :
    Post w (endW b W1 FB e) FB VB LB CB MB n M lc lo co mo H L EH EL N TH TL vh vl (if b then e.1 else vh) (if b then e.2 else vl) := by
  have nF := h.nF
  have P0 : Post w W1 FB VB LB CB MB n M lc lo co mo H L EH EL N TH TL vh vl vh vl :=
    have c : ∀ {p v}, W.cell? p = some v → p.block ≠ w.heap.size → W1.cell? p = some v := fun hp hne => hk.cell hp hne
    ⟨⟨hk.os.trans h.bel.os, hk.tape.trans h.bel.tape, hk.output.trans h.bel.output, Nat.le_trans h.bel.size hk.size, fun k hk' => (hk.block k (Nat.lt_of_lt_of_le hk' h.bel.size) (by omega)).trans (h.bel.block k hk')⟩,
      c h.hc (by show FB ≠ _; omega), c h.hl (by show FB ≠ _; omega), c h.v0 (by show FB ≠ _; omega), c h.v1 (by show FB ≠ _; omega), hV,
      h.ll.same (fun h0 => hk.block _ (h.ll.lt h0) (by have := h.nL h0; omega)), h.cb.same (fun h0 => hk.block _ (h.cb.lt h0) (by have := h.nC h0; omega)), h.ml.same (fun h0 => hk.block _ (h.ml.lt h0) (by have := h.nM h0; omega)),
      c h.x0 (by have := h.nV; show VB ≠ _; omega), c h.x1 (by have := h.nV; show VB ≠ _; omega)⟩
  cases b with
  | false => exact P0
  | true =>
    have oth : ∀ k, k ≠ FB → (endW true W1 FB e).heap[k]? = W1.heap[k]? := fun k hne => by
      show ((W1.setCell _ _).setCell _ _).heap[k]? = _
      rw [heap_setCell_other _ _ _ _ hne, heap_setCell_other _ _ _ _ hne]
    have same : ∀ j, j ≠ 3 → j ≠ 4 → (endW true W1 FB e).cell? ⟨FB, j, none⟩ = W1.cell? ⟨FB, j, none⟩ := fun j h3 h4 => by
      show ((W1.setCell _ _).setCell _ _).cell? _ = _
      rw [World.cell?_setCell_other _ _ _ _ (by simp [h4]), World.cell?_setCell_other _ _ _ _ (by simp [h3])]
    have lF : ∀ k, k < w.heap.size → k ≠ FB := fun k hk => by omega
    refine ⟨(P0.bel.setCell (by show _ ≤ FB; omega) _).setCell (by show _ ≤ FB; omega) _, (same 15 (by omega) (by omega)).trans P0.hc, (same 16 (by omega) (by omega)).trans P0.hl, ?_, ?_, P0.blk.same (oth _ (by omega)), P0.ll.same (fun h0 => oth _ (h.nL h0).2), P0.cb.same (fun h0 => oth _ (h.nC h0).2), P0.ml.same (fun h0 => oth _ (h.nM h0).2), cellOf P0.x0 (oth _ h.nV.2), cellOf P0.x1 (oth _ h.nV.2)⟩
    · show ((W1.setCell _ _).setCell _ _).cell? _ = _
      rw [World.cell?_setCell_other _ _ _ _ (by simp), World.cell?_setCell_same _ _ _ (by rw [P0.v0])]
      rfl
    · show ((W1.setCell _ _).setCell _ _).cell? _ = _
      rw [World.cell?_setCell_same _ _ _ (by rw [World.cell?_setCell_other _ _ _ _ (by simp), P0.v1])]
      rfl


theorem kp_below {B0 EB : Nat} {W6 WA wx : World} (h : Below B0 W6 WA) (k : Kp EB WA wx) (hE : B0 ≤ EB) (hs : B0 ≤ WA.heap.size) : Below B0 W6 wx :=
  ⟨k.os.trans h.os, k.tape.trans h.tape, k.output.trans h.output, Nat.le_trans h.size k.size, fun j hj => (k.block j (by omega) (by omega)).trans (h.block j hj)⟩
def eblk (e : Nat × Nat) : Obj := .cells #[.int .u64 (e.1 : Int), .int .u64 (e.2 : Int)] 29 (0, 0)
theorem eblk_0 {w : World} {EB : Nat} {e : Nat × Nat} (h : w.heap[EB]? = some (eblk e)) : w.cell? ⟨EB, 0, none⟩ = some (.int .u64 (e.1 : Int)) := by rw [cell_of_row _ _ _ _ _ _ h]; rfl
theorem eblk_1 {w : World} {EB : Nat} {e : Nat × Nat} (h : w.heap[EB]? = some (eblk e)) : w.cell? ⟨EB, 1, none⟩ = some (.int .u64 (e.2 : Int)) := by rw [cell_of_row _ _ _ _ _ _ h]; rfl
theorem eblk_f {w : World} {EB : Nat} {e : Nat × Nat} (h : w.heap[EB]? = some (eblk e)) (j : Nat) : w.frozen? ⟨EB, j, none⟩ = false := frozen_of_row _ _ _ _ _ h
theorem eblk_set {w : World} {EB : Nat} {e : Nat × Nat} (h : w.heap[EB]? = some (eblk e)) (x y : Nat) : ((w.setCell ⟨EB, 0, none⟩ (.int .u64 (x : Int))).setCell ⟨EB, 1, none⟩ (.int .u64 (y : Int))).heap[EB]? = some (eblk (x, y)) := by
  have h1 := heap_setCell_same w EB 0 _ 29 (.int .u64 (x : Int)) h
  rw [heap_setCell_same _ EB 1 _ 29 (.int .u64 (y : Int)) h1]
  rfl
theorem E_out (H L N TH TL : Nat → Nat) (t q : Nat) (h : ¬ (offs N t ≤ q ∧ q < offs N t + N t)) : E H L N TH TL (t + 1) q = E H L N TH TL t q := by
  rw [E, if_neg (fun h' => h h'.1)]
theorem E_stay (H L N TH TL : Nat → Nat) (t q : Nat) (h : later (TH t) (TL t) (E H L N TH TL t q).1 (E H L N TH TL t q).2 = false) : E H L N TH TL (t + 1) q = E H L N TH TL t q := by
  rw [E, if_neg (fun h' => by rw [h] at h'; cases h'.2)]
theorem E_go (H L N TH TL : Nat → Nat) (t q : Nat) (h1 : offs N t ≤ q) (h2 : q < offs N t + N t) (h : later (TH t) (TL t) (E H L N TH TL t q).1 (E H L N TH TL t q).2 = true) : E H L N TH TL (t + 1) q = (TH t, TL t) := by
  rw [E, if_pos ⟨⟨h1, h2⟩, h⟩]
theorem wrap_ok (a b : Nat) (h : a + b ≤ 4096) : IntKind.i64.wrap ((a : Int) + (b : Int)) = (a : Int) + (b : Int) :=
  (IntWalk.i64_left _).trans (IntWalk.wrap64_in _ ⟨by omega, by omega⟩)
theorem kept43 {W8 w2 : World} {m : Nat} (hb : Below (W8.drewN m).drew.heap.size (W8.drewN m).drew w2) {p : Addr} {v : Value} (h : W8.cell? p = some v) : w2.cell? p = some v := (hb.cell (World.block_lt_of_cell? _ _ (show W8.cell? p = some v from h))).trans h
theorem below43 {w W8 w2 : World} {m : Nat} (h : Below w.heap.size w W8) (hb : Below (W8.drewN m).drew.heap.size (W8.drewN m).drew w2) : Below w.heap.size w w2 :=
  have hb' : Below W8.heap.size W8 w2 := ⟨hb.os, hb.tape, hb.output, hb.size, hb.block⟩
  h.trans (hb'.mono h.size)
theorem kept30 {wi w2 : World} (hb : Below wi.drew.heap.size wi.drew w2) {p : Addr} {v : Value} (h : wi.cell? p = some v) : w2.cell? p = some v := (hb.cell (World.block_lt_of_cell? _ _ (show wi.drew.cell? p = some v from h))).trans h
theorem frz30 {wi w2 : World} (hb : Below wi.drew.heap.size wi.drew w2) {p : Addr} (hp : p.block < wi.heap.size) (h : wi.frozen? p = false) : w2.frozen? p = false := (hb.frozen (by exact hp)).trans h
end Go.Proofs.Ybulkdmvy.Lift
