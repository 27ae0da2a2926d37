/-
  S5753B: chunkFinder.
-/
import Derived.Test.YbulkdocuOrder
namespace Go.Proofs.Ybulkdocu
open Go.RowKit Go.Sort
set_option linter.unusedVariables false
set_option linter.unusedSimpArgs false

theorem Yba.info3 : (Yba.prog.info? 3).map (fun i => (i.zero, i.size, i.bytes)) = some (some (.int .i64 0), 1, 8) := by kernel_rfl

/-- A block of ints. -/
def RowI (w : World) (g : Nat) (L : List Nat) : Prop := w.heap[g]? = some (.cells (L.map fun x => Value.int .i64 (x : Nat)).toArray 3 (0, 0))
theorem RowI.cell {w : World} {g : Nat} {L : List Nat} (h : RowI w g L) (k : Nat) (hk : k < L.length) : w.cell? ⟨g, k, none⟩ = some (.int .i64 (L.getD k 0 : Nat)) := by
  rw [World.cell?, h]
  simp [List.getElem?_eq_getElem hk]
theorem RowI.fr {w : World} {g : Nat} {L : List Nat} (h : RowI w g L) (j : Nat) : w.frozen? ⟨g, j, none⟩ = false := frozen_of_row w g j _ 3 h
theorem RowI.lt {w : World} {g : Nat} {L : List Nat} (h : RowI w g L) : g < w.heap.size := (Array.getElem?_eq_some_iff.1 h).1
theorem RowI.set {w : World} {g : Nat} {L : List Nat} (h : RowI w g L) (k x : Nat) : RowI (w.setCell ⟨g, k, none⟩ (.int .i64 (x : Nat))) g (L.set k x) := by
  have h1 := heap_setCell_same w g k _ 3 (.int .i64 (x : Nat)) h
  unfold RowI
  rw [h1]
  simp
theorem RowI.of_block {w w' : World} {g : Nat} {L : List Nat} (h : RowI w g L) (e : w'.heap[g]? = w.heap[g]?) : RowI w' g L := by unfold RowI; rw [e]; exact h
theorem made_ints (n : Nat) : (madeCells #[Value.int .i64 0] (n * 1)).toList = (List.replicate n 0).map (fun x => Value.int .i64 (x : Nat)) := by
  apply List.ext_getElem?
  intro j
  by_cases hj : j < n
  · simp [madeCells, hj, Nat.mod_one]
  · simp [madeCells, hj]
theorem rowI_of_owns {w : World} {base n g : Nat} (h : w.ownsRow base 3 1 (.slice (some ⟨g, 0, none⟩) n n) n (madeCells #[Value.int .i64 0] (n * 1)).toList) : RowI w g (List.replicate n 0) := by
  rcases h.2 with ⟨h', _⟩ | ⟨g', cap', cur, h', _, hg, _, _, hs, htake⟩
  · simp at h'
  · simp only [Value.slice.injEq, Option.some.injEq, Addr.mk.injEq, and_true, true_and] at h'
    obtain ⟨rfl, rfl⟩ := h'
    rw [List.take_of_length_le (by rw [Array.length_toList, hs]; exact Nat.le_refl _)] at htake
    unfold RowI
    rw [hg, ← made_ints, ← htake]

theorem step_make {ops : Array Oper} {o : Oper} {a : Act} {w : World} {K : Act → World → Prop} {Q : Exit → Act → World → Prop} {E : Prop} (hgd : o.guard = none) (l c : Operand) (ho : o.op = Op.makeSlice 76 l c) (L : Int) (n : Nat) (hl : a.eval l = .int .i64 L) (hc : a.eval c = .int .i64 L) (hL : L = (n : Int)) (hn : n ≤ 4096)
    (h : ∀ w', RowI w' w.heap.size (List.replicate n 0) → w.grownBy w' none → K (a.put o.dst (.slice (some ⟨w.heap.size, 0, none⟩) n n)) w') :
    if Region.wanted o (yielded ops a.tmps) = true then Oper.wp Yba.prog o a w K Q else E := by
  have hw : Region.wanted o (yielded ops a.tmps) = true := by simp [Region.wanted, hgd]
  rw [if_pos hw]
  obtain ⟨i, hi, hz, hs1, hby⟩ := info_parts Yba.info3
  obtain ⟨w', hrun, r1, r2⟩ := run_make_full (P := Yba.prog) w w.heap.size 76 3 i (.int .i64 0) 1 Yba.underlying76 hi hz hs1 .i64 .i64 n (by rw [hby]; omega) (by unfold maxLen; omega) (Nat.le_refl _)
  subst hL
  unfold Oper.wp
  simp [execOp, ho, hl, hc, hrun, Result.andThen]
  exact h w' (rowI_of_owns r1) r2

theorem set_cell_self {w : World} {g : Nat} {v u : Value} {ty : TypeId} (h : w.heap[g]? = some (.cells #[u] ty (0, 0))) : (w.setCell ⟨g, 0, none⟩ v).cell? ⟨g, 0, none⟩ = some v := by
  rw [World.cell?, heap_setCell_same w g 0 _ ty v h]
  simp

/-- The archive as the law makes it. -/
structure Arch0 (w : World) (an nb eb n c m : Nat) (K : List Nat) : Prop where
  ents : w.cell? ⟨an, 48, none⟩ = some (.slice (some ⟨eb, 0, none⟩) n n)
  names : w.cell? ⟨an, 49, none⟩ = some (.slice (some ⟨nb, 0, none⟩) n c)
  mf : w.cell? ⟨an, 50, none⟩ = some (.int .i64 (m : Nat))
  row : ∀ i, i < n → ∀ j v, (nameL (K.getD i 0))[j]? = some v → w.cell? ⟨nb, i * 16 + j, none⟩ = some v
  key : ∀ i, i < n → K.getD i 0 < 12
theorem Arch0.kept {w w' : World} {B an nb eb n c m : Nat} {K : List Nat} (h : Arch0 w an nb eb n c m K) (hB : w.heap.size ≤ B) (hb : Below B w w') : Arch0 w' an nb eb n c m K :=
  have hb := hb.mono hB
  ⟨keep_cell h.ents hb, keep_cell h.names hb, keep_cell h.mf hb, fun i hi j v hj => keep_cell (h.row i hi j v hj) hb, h.key⟩

/-- What the first statement of chunkFinder leaves. -/
structure Mid (w w0 wx : World) (yb rb N : Nat) (L : List Nat) : Prop where
  box : wx.cell? ⟨yb, 0, none⟩ = some (.slice (some ⟨rb, 0, none⟩) N N)
  row : RowI wx rb L
  ne : yb ≠ rb
  y : w.heap.size < yb
  r : w.heap.size < rb
  bel : Below (w.heap.size + 1) w0 wx

theorem Mid.drew {w w0 wx : World} {yb rb N : Nat} {L : List Nat} (h : Mid w w0 wx yb rb N L) : Mid w w0 wx.drew yb rb N L := ⟨h.box, h.row, h.ne, h.y, h.r, h.bel.drew⟩

/-- The row when k of its places are laid. -/
def laidTo (m N k : Nat) : List Nat := (List.range N).map fun t => if t < k then m + t else 0
theorem laidTo_length (m N k : Nat) : (laidTo m N k).length = N := by simp [laidTo]
theorem laidTo_zero (m N : Nat) : laidTo m N 0 = List.replicate N 0 := by
  apply List.ext_getElem?
  intro j
  by_cases hj : j < N <;> simp [laidTo, hj]
theorem laidTo_set (m N k : Nat) (hk : k < N) : (laidTo m N k).set k (m + k) = laidTo m N (k + 1) := by
  apply List.ext_getElem
  · simp [laidTo]
  · intro j h1 h2
    rw [List.getElem_set]
    simp only [laidTo, List.getElem_map, List.getElem_range]
    by_cases h : k = j
    · subst h
      simp
    · rw [if_neg h]
      by_cases h3 : j < k
      · rw [if_pos h3, if_pos (by omega)]
      · rw [if_neg h3, if_neg (by omega)]
theorem laidTo_all (m N t : Nat) (ht : t < N) : (laidTo m N N).getD t 0 = m + t := by
  simp [laidTo, List.getD_eq_getElem?_getD, List.getElem?_map, ht]

set_option maxHeartbeats 2000000 in
set_option maxRecDepth 100000 in
theorem chunk (an nb eb n c m N : Nat) (K : List Nat) (w : World) (hA : Arch0 w an nb eb n c m K) (hmN : m + N = n) (hn : n ≤ 4096) (hnb : nb < w.heap.size) (han : an < w.heap.size) :
    Calls Yba.prog 11 #[.pointer (some ⟨an, 0, none⟩)] w fun e w' => ∃ ab yb rb D, e = .returned (.func (.func 20) #[] #[.pointer (some ⟨yb, 0, none⟩), .pointer (some ⟨ab, 0, none⟩)]) ∧ Arch w' ab an nb n c K ∧ Row w' rb N n D ∧ Sorted K m n N D ∧
      w'.cell? ⟨yb, 0, none⟩ = some (.slice (some ⟨rb, 0, none⟩) N N) ∧ Below w.heap.size w w' := by
  have hb0 : Below w.heap.size w (w.alloc (.cells #[.pointer (some ⟨an, 0, none⟩)] 43)) := (Below.refl _ _).alloc (Nat.le_refl _) _
  have hA1 := hA.kept (Nat.le_refl _) hb0
  have hs0 : (w.alloc (.cells #[.pointer (some ⟨an, 0, none⟩)] 43)).heap.size = w.heap.size + 1 := by simp
  have hx0 : (w.alloc (.cells #[.pointer (some ⟨an, 0, none⟩)] 43)).cell? ⟨w.heap.size, 0, none⟩ = some (.pointer (some ⟨an, 0, none⟩)) := by simp
  have HA1 : Hid (Arch0 (w.alloc (.cells #[.pointer (some ⟨an, 0, none⟩)] 43)) an nb eb n c m K) := hA1
  have HB0 : Hid (Below w.heap.size w (w.alloc (.cells #[.pointer (some ⟨an, 0, none⟩)] 43))) := hb0
  have hSZ : ∀ B W, w.heap.size + 1 ≤ B → Below B (w.alloc (.cells #[.pointer (some ⟨an, 0, none⟩)] 43)) W → W.cell? ⟨w.heap.size, 0, none⟩ = some (.pointer (some ⟨an, 0, none⟩)) ∧ W.cell? ⟨an, 48, none⟩ = some (.slice (some ⟨eb, 0, none⟩) n n) ∧ W.cell? ⟨an, 50, none⟩ = some (.int .i64 (m : Nat)) :=
    fun B W hB hb => by
      have hb' := hb.mono (hs0 ▸ hB)
      have := HA1.out.kept (Nat.le_refl _) hb'
      exact ⟨keep_cell hx0 hb', this.ents, this.mf⟩
  have HSZ : Hid _ := hSZ
  clear hA hA1 hb0 hSZ
  go_enter Yba.func11, Yba.ntmps11
  go_upto_region 1 with fail
  generalize w.alloc (.cells #[.pointer (some ⟨an, 0, none⟩)] 43) = w0 at *
  have hmn : (m : Int) ≤ (n : Int) := by omega
  have hwrap : IntKind.i64.wrap ((n : Int) - (m : Int)) = (N : Int) := by rw [show (n : Int) - m = N by omega]; simp [IntKind.wrap, IntKind.bits, IntKind.signed]; omega
  go_cut [3] (fun v wx => ∃ yb rb, v = .pointer (some ⟨yb, 0, none⟩) ∧ Mid w w0 wx yb rb N (List.replicate N 0))
  case first =>
    refine wp_region_held_drew (S := (fun W => W.cell? ⟨w.heap.size, 0, none⟩ = some (.pointer (some ⟨an, 0, none⟩)) ∧ W.cell? ⟨an, 48, none⟩ = some (.slice (some ⟨eb, 0, none⟩) n n) ∧ W.cell? ⟨an, 50, none⟩ = some (.int .i64 m))) (by kernel_rfl) ?_ (fun hHeld => ?_)
    · exact HSZ.out _ _ (Nat.le_refl _) (Below.refl _ _).drew
    refine wpAnyH_take (i := 0) (oi := { dst := some 5, op := Op.load 43 (Operand.tmp 1), type := 43, pos := "read.go:147", after := #[], guard := none }) (v := ?va0) rfl (by kernel_rfl) (by kernel_rfl) (by kernel_rfl) (fun _ _ _ h => h) (Or.inl ⟨by rfl, ?ya0⟩) (by assumption) ?ra0
    case ya0 => intro w hSw; (try dsimp only at hSw); go_simp; (try with_reducible rfl)
    try simp only [Act.put, List.setIfInBounds_toArray, List.set_cons_zero, List.set_cons_succ]
    refine wpAnyH_take (i := 1) (oi := { dst := some 6, op := Op.nilCheck (Operand.tmp 5), type := 0, pos := "read.go:147", after := #[{ on := 0, ground := Ground.data }], guard := none }) (v := ?va1) rfl (by kernel_rfl) (by kernel_rfl) (by kernel_rfl) (fun _ _ _ h => h) (Or.inl ⟨by rfl, ?ya1⟩) (by assumption) ?ra1
    case ya1 => intro w hSw; (try dsimp only at hSw); go_simp; (try with_reducible rfl)
    try simp only [Act.put, List.setIfInBounds_toArray, List.set_cons_zero, List.set_cons_succ]
    refine wpAnyH_take (i := 2) (oi := { dst := some 7, op := Op.fieldAddr 57 (Operand.tmp 6) 5, type := 0, pos := "read.go:147", after := #[{ on := 1, ground := Ground.data }], guard := none }) (v := ?va2) rfl (by kernel_rfl) (by kernel_rfl) (by kernel_rfl) (fun _ _ _ h => h) (Or.inl ⟨by rfl, ?ya2⟩) (by assumption) ?ra2
    case ya2 => intro w hSw; (try dsimp only at hSw); go_simp; (try with_reducible rfl)
    try simp only [Act.put, List.setIfInBounds_toArray, List.set_cons_zero, List.set_cons_succ]
    refine wpAnyH_take (i := 3) (oi := { dst := some 8, op := Op.load 44 (Operand.tmp 7), type := 44, pos := "read.go:147", after := #[{ on := 2, ground := Ground.data }], guard := none }) (v := ?va3) rfl (by kernel_rfl) (by kernel_rfl) (by kernel_rfl) (fun _ _ _ h => h) (Or.inl ⟨by rfl, ?ya3⟩) (by assumption) ?ra3
    case ya3 => intro w hSw; (try dsimp only at hSw); go_simp; (try with_reducible rfl)
    try simp only [Act.put, List.setIfInBounds_toArray, List.set_cons_zero, List.set_cons_succ]
    refine wpAnyH_take (i := 4) (oi := { dst := some 9, op := Op.call { callee := Callee.builtin Builtin.len, args := #[Operand.tmp 8], argTypes := #[44] }, type := 3, pos := "read.go:147", after := #[{ on := 3, ground := Ground.data }], guard := none }) (v := ?va4) rfl (by kernel_rfl) (by kernel_rfl) (by kernel_rfl) (fun _ _ _ h => h) (Or.inl ⟨by rfl, ?ya4⟩) (by assumption) ?ra4
    case ya4 => intro w hSw; (try dsimp only at hSw); go_simp; (try with_reducible rfl)
    try simp only [Act.put, List.setIfInBounds_toArray, List.set_cons_zero, List.set_cons_succ]
    refine wpAnyH_take (i := 5) (oi := { dst := some 10, op := Op.load 43 (Operand.tmp 1), type := 43, pos := "read.go:147", after := #[], guard := none }) (v := ?va5) rfl (by kernel_rfl) (by kernel_rfl) (by kernel_rfl) (fun _ _ _ h => h) (Or.inl ⟨by rfl, ?ya5⟩) (by assumption) ?ra5
    case ya5 => intro w hSw; (try dsimp only at hSw); go_simp; (try with_reducible rfl)
    try simp only [Act.put, List.setIfInBounds_toArray, List.set_cons_zero, List.set_cons_succ]
    refine wpAnyH_take (i := 6) (oi := { dst := some 11, op := Op.nilCheck (Operand.tmp 10), type := 0, pos := "read.go:147", after := #[{ on := 5, ground := Ground.data }], guard := none }) (v := ?va6) rfl (by kernel_rfl) (by kernel_rfl) (by kernel_rfl) (fun _ _ _ h => h) (Or.inl ⟨by rfl, ?ya6⟩) (by assumption) ?ra6
    case ya6 => intro w hSw; (try dsimp only at hSw); go_simp; (try with_reducible rfl)
    try simp only [Act.put, List.setIfInBounds_toArray, List.set_cons_zero, List.set_cons_succ]
    refine wpAnyH_take (i := 7) (oi := { dst := some 12, op := Op.fieldAddr 57 (Operand.tmp 11) 7, type := 0, pos := "read.go:147", after := #[{ on := 6, ground := Ground.data }], guard := none }) (v := ?va7) rfl (by kernel_rfl) (by kernel_rfl) (by kernel_rfl) (fun _ _ _ h => h) (Or.inl ⟨by rfl, ?ya7⟩) (by assumption) ?ra7
    case ya7 => intro w hSw; (try dsimp only at hSw); go_simp; (try with_reducible rfl)
    try simp only [Act.put, List.setIfInBounds_toArray, List.set_cons_zero, List.set_cons_succ]
    refine wpAnyH_take (i := 8) (oi := { dst := some 13, op := Op.load 3 (Operand.tmp 12), type := 3, pos := "read.go:147", after := #[{ on := 7, ground := Ground.data }], guard := none }) (v := ?va8) rfl (by kernel_rfl) (by kernel_rfl) (by kernel_rfl) (fun _ _ _ h => h) (Or.inl ⟨by rfl, ?ya8⟩) (by assumption) ?ra8
    case ya8 => intro w hSw; (try dsimp only at hSw); go_simp; (try with_reducible rfl)
    try simp only [Act.put, List.setIfInBounds_toArray, List.set_cons_zero, List.set_cons_succ]
    refine wpAnyH_take (i := 9) (oi := { dst := some 14, op := Op.binOp BinOp.sub 3 (Operand.tmp 9) (Operand.tmp 13) 3, type := 3, pos := "read.go:147", after := #[{ on := 4, ground := Ground.data }, { on := 8, ground := Ground.data }], guard := none }) (v := ?va9) rfl (by kernel_rfl) (by kernel_rfl) (by kernel_rfl) (fun _ _ _ h => h) (Or.inl ⟨by rfl, ?ya9⟩) (by assumption) ?ra9
    case ya9 => intro w hSw; (try dsimp only at hSw); go_simp; (try with_reducible rfl)
    try simp only [Act.put, List.setIfInBounds_toArray, List.set_cons_zero, List.set_cons_succ]
    refine wpAnyH_ready (rs := [10, 11]) (by kernel_rfl) (by simp) ?_
    refine AllReadyH.cons (o := { dst := some 15, op := Op.makeSlice 76 (Operand.tmp 14) (Operand.tmp 14), type := 76, pos := "read.go:147", after := #[{ on := 9, ground := Ground.data }, { on := 9, ground := Ground.data }], guard := none }) rfl (fun K hK => ?mkA) ?mkB
    case mkA =>
      refine step_make rfl _ _ rfl _ N rfl rfl (by omega) (by omega) ?_
      intro w1 hr1 hg1
      have hb1 : Below (w.heap.size + 1) w0 w1 := (Below.refl _ _).drew.grown hg1 (by rw [← hs0]; exact Nat.le_refl _) (fun k h => by cases h)
      have es : w0.drew.heap.size = w.heap.size + 1 := hs0
      rw [es] at hr1 ⊢
      have hl1 := hr1.lt
      refine hK.out _ _ (HSZ.out _ _ (Nat.le_refl _) hb1) (fun hHeld2 => ?_)
      clear hK K hHeld
      try simp only [Act.put, List.setIfInBounds_toArray, List.set_cons_zero, List.set_cons_succ]
      refine wpAnyH_ready (rs := [11]) (by kernel_rfl) (by simp) ?_
      refine AllReadyH.cons (o := { dst := some 3, op := Op.alloc 76, type := 0, pos := "read.go:147", after := #[], guard := none }) rfl (fun K hK => ?_) AllReadyH.nil
      go_simp
      have hb2 : Below (w.heap.size + 1) w0 (w1.alloc (.cells #[.slice none 0 0] 76)) := hb1.alloc (by omega) _
      refine hK.out _ _ (HSZ.out _ _ (Nat.le_refl _) hb2) (fun hHeld3 => ?_)
      clear hK K hHeld2
      try simp only [Act.put, List.setIfInBounds_toArray, List.set_cons_zero, List.set_cons_succ]
      refine wpAnyH_ready (rs := [12]) (by kernel_rfl) (by simp) ?_
      refine AllReadyH.cons (o := { dst := none, op := Op.store 76 (Operand.tmp 3) (Operand.tmp 15), type := 0, pos := "read.go:147", after := #[{ on := 11, ground := Ground.data }, { on := 10, ground := Ground.data }, { on := 0, ground := Ground.phase }, { on := 1, ground := Ground.phase }, { on := 2, ground := Ground.phase }, { on := 3, ground := Ground.phase }, { on := 4, ground := Ground.phase }, { on := 5, ground := Ground.phase }, { on := 6, ground := Ground.phase }, { on := 7, ground := Ground.phase }, { on := 8, ground := Ground.phase }, { on := 9, ground := Ground.phase }, { on := 10, ground := Ground.phase }, { on := 11, ground := Ground.phase }], guard := none }) rfl (fun K hK => ?_) AllReadyH.nil
      go_simp
      have hb3 : Below (w.heap.size + 1) w0 (w1.alloc (.cells #[.slice (some ⟨w.heap.size + 1, 0, none⟩) N N] 76)) := hb1.alloc (by omega) _
      refine hK.out _ _ (HSZ.out _ _ (Nat.le_refl _) hb3) (fun hHeld4 => ?_)
      clear hK K hHeld3
      try simp only [Act.put, List.setIfInBounds_toArray, List.set_cons_zero, List.set_cons_succ]
      refine wpAnyH_done (by kernel_rfl) ?_ _
      go_wp2
      go_meet
      exact ⟨w1.heap.size, w.heap.size + 1, rfl, ⟨by simp, hr1.of_block (Below.heap_alloc _ _ _ hl1), by omega, by omega, by omega, hb3⟩⟩
    refine AllReadyH.cons (o := { dst := some 3, op := Op.alloc 76, type := 0, pos := "read.go:147", after := #[], guard := none }) rfl (fun K hK => ?_) AllReadyH.nil
    go_simp
    have hb1 : Below (w.heap.size + 1) w0 (w0.alloc (.cells #[.slice none 0 0] 76)).drew := ((Below.refl _ _).alloc (by rw [hs0]; exact Nat.le_refl _) _).drew
    refine hK.out _ _ (HSZ.out _ _ (Nat.le_refl _) hb1) (fun hHeld2 => ?_)
    clear hK K hHeld
    try simp only [Act.put, List.setIfInBounds_toArray, List.set_cons_zero, List.set_cons_succ]
    refine wpAnyH_ready (rs := [10]) (by kernel_rfl) (by simp) ?_
    refine AllReadyH.cons (o := { dst := some 15, op := Op.makeSlice 76 (Operand.tmp 14) (Operand.tmp 14), type := 76, pos := "read.go:147", after := #[{ on := 9, ground := Ground.data }, { on := 9, ground := Ground.data }], guard := none }) rfl (fun K hK => ?_) AllReadyH.nil
    refine step_make rfl _ _ rfl _ N rfl rfl (by omega) (by omega) ?_
    intro w1 hr1 hg1
    have es : (w0.alloc (.cells #[.slice none 0 0] 76)).drew.heap.size = w.heap.size + 2 := by show (w0.alloc (.cells #[.slice none 0 0] 76)).heap.size = _; simp [hs0]
    rw [es] at hr1 ⊢
    have hb2 : Below (w.heap.size + 1) w0 w1 := hb1.grown hg1 (by rw [es]; omega) (fun k h => by cases h)
    have hl1 := hr1.lt
    have hy : w1.heap[w.heap.size + 1]? = some (.cells #[.slice none 0 0] 76 (0, 0)) := by
      rw [hg1.block _ (by rw [es]; omega) (by simp)]
      show (w0.alloc (.cells #[.slice none 0 0] 76)).heap[w.heap.size + 1]? = _
      rw [← hs0]
      exact heap_alloc_self w0 _
    have hyc : w1.cell? ⟨w.heap.size + 1, 0, none⟩ = some (.slice none 0 0) := by rw [World.cell?, hy]; rfl
    have hyf : w1.frozen? ⟨w.heap.size + 1, 0, none⟩ = false := frozen_of_row w1 _ _ _ _ hy
    refine hK.out _ _ (HSZ.out _ _ (Nat.le_refl _) hb2) (fun hHeld3 => ?_)
    clear hK K hHeld2
    try simp only [Act.put, List.setIfInBounds_toArray, List.set_cons_zero, List.set_cons_succ]
    refine wpAnyH_ready (rs := [12]) (by kernel_rfl) (by simp) ?_
    refine AllReadyH.cons (o := { dst := none, op := Op.store 76 (Operand.tmp 3) (Operand.tmp 15), type := 0, pos := "read.go:147", after := #[{ on := 11, ground := Ground.data }, { on := 10, ground := Ground.data }, { on := 0, ground := Ground.phase }, { on := 1, ground := Ground.phase }, { on := 2, ground := Ground.phase }, { on := 3, ground := Ground.phase }, { on := 4, ground := Ground.phase }, { on := 5, ground := Ground.phase }, { on := 6, ground := Ground.phase }, { on := 7, ground := Ground.phase }, { on := 8, ground := Ground.phase }, { on := 9, ground := Ground.phase }, { on := 10, ground := Ground.phase }, { on := 11, ground := Ground.phase }], guard := none }) rfl (fun K hK => ?_) AllReadyH.nil
    go_simp
    have hb3 : Below (w.heap.size + 1) w0 (w1.setCell ⟨w.heap.size + 1, 0, none⟩ (.slice (some ⟨w.heap.size + 2, 0, none⟩) N N)) := hb2.setCell (by simp) _
    refine hK.out _ _ (HSZ.out _ _ (Nat.le_refl _) hb3) (fun hHeld4 => ?_)
    clear hK K hHeld3
    try simp only [Act.put, List.setIfInBounds_toArray, List.set_cons_zero, List.set_cons_succ]
    refine wpAnyH_done (by kernel_rfl) ?_ _
    go_wp2
    go_meet
    exact ⟨w.heap.size + 1, w.heap.size + 2, rfl, ⟨set_cell_self hy, hr1.of_block (Below.heap_setCell _ _ _ _ (by simp)), by omega, by omega, by omega, hb3⟩⟩
  case rest =>
    obtain ⟨yb, rb, rfl, hM⟩ := hcut
    obtain ⟨wz, h⟩ : ∃ wz, wz = wc := ⟨_, rfl⟩
    subst h
    have hybox := hM.box
    go_wp2_with fail
    go_loopg [18] N (fun gk v18 wx => ∃ k, k ≤ N ∧ gk = N - k ∧ v18 = .int .i64 k ∧ Mid w w0 wx yb rb N (laidTo m N k))
    case atStart => exact ⟨0, by omega, rfl, rfl, by rw [laidTo_zero]; exact hM⟩
    case round =>
      clear hybox hM
      obtain ⟨k, hk, rfl, rfl, hM⟩ := hrel
      have hS := HSZ.out _ _ (Nat.le_refl _) hM.bel
      have hc1 := hS.1
      have hc3 := hS.2.2
      have hc4 := hM.box
      by_cases hlt : k < N
      · have hkz : (k : Int) < (N : Int) := by omega
        have hc5 := hM.row.cell k (by rw [laidTo_length]; exact hlt)
        have hf5 := hM.row.fr k
        have HMN : Hid (Mid w w0 (wr.setCell ⟨rb, k, none⟩ (.int .i64 (m + k : Nat))) yb rb N (laidTo m N (k + 1))) := by
          refine ⟨?_, ?_, hM.ne, hM.y, hM.r, Below.setCell (p := ⟨rb, k, none⟩) hM.bel hM.r _⟩
          · rw [World.cell?, Below.heap_setCell _ _ _ _ hM.ne]
            exact hc4
          · rw [← laidTo_set m N k hlt]
            exact hM.row.set k (m + k)
        have hmk : ((m + k : Nat) : Int) = (m : Int) + (k : Int) := by omega
        rw [hmk] at HMN
        clear hM hS
        go_wp2_with fail
        go_region
        all_goals
          go_wp2
          go_roundg (N - (k + 1))
          case rel => exact ⟨k + 1, by omega, by omega, by go_num, HMN.out.drew⟩
          all_goals omega
      · obtain rfl : k = N := by omega
        have hA2 := HA1.out.kept (by rw [hs0]; exact Nat.le_refl _) hM.bel
        have hAr : Arch wr w.heap.size an nb n c K := ⟨hc1, hA2.names, hA2.row, hA2.key⟩
        have hsr := sortIt w.heap.size an nb n c rb k m K wr hAr (fun t ht => by
          have h1 := hM.row.cell t (by rw [laidTo_length]; exact ht)
          rw [laidTo_all m k t ht] at h1
          exact ⟨h1, hM.row.fr t⟩) hmN hn (by have := hM.r; omega) (by have := hM.r; omega) (by have := hM.r; omega) hM.row.lt
        have HEND : Hid (∀ w5 D, Row w5 rb k n D → Sorted K m n k D → wr.grownBy w5 (some rb) → Arch w5 w.heap.size an nb n c K ∧ Row w5 rb k n D ∧ Sorted K m n k D ∧ w5.cell? ⟨yb, 0, none⟩ = some (.slice (some ⟨rb, 0, none⟩) k k) ∧ Below w.heap.size w w5) := fun w5 D h1 h2 h3 =>
          ⟨hAr.grown h3 (by have := hM.r; omega) (by have := hM.r; omega) (by have := hM.r; omega), h1, h2, grown_cell h3 hc4 hM.ne,
            (HB0.out.trans (hM.bel.mono (Nat.le_succ _))).grown h3 (by have := hM.bel.size; omega) (fun k' hk' => by have := hM.r; cases hk'; omega)⟩
        clear hA2 hAr hM hS
        go_wp2_with fail
        refine hsr.mono ?_
        rintro e w5 ⟨rfl, D, h1, h2, h3⟩
        have hE := HEND.out w5 D h1 h2 h3
        clear h1 h2 h3 hsr
        go_wp2
        go_ret
        exact ⟨w.heap.size, yb, rb, D, rfl, hE⟩
end Go.Proofs.Ybulkdocu
