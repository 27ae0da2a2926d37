/-
  S5753A: appendPath, WALKED.
-/
import Derived.Test.YbulkdocuOwn
import Derived.RegionTactic
import Derived.Deep.RegionLaw
import Derived.Deep.DeepCutAuto
namespace Go.Proofs.Ybulkdocu
open Go.RowKit
set_option linter.unusedVariables false

theorem Own2.alloc {w : World} {B n0 n : Nat} {v0 v : Value} {xs0 xs : List Value} (h : Own2 w B v0 n0 xs0 v n xs) (o : Obj) : Own2 (w.alloc o) B v0 n0 xs0 v n xs :=
  ⟨h.old.alloc o, h.now.alloc o, h.pre, h.le⟩
theorem Own2.drew {w : World} {B n0 n : Nat} {v0 v : Value} {xs0 xs : List Value} (h : Own2 w B v0 n0 xs0 v n xs) : Own2 w.drew B v0 n0 xs0 v n xs :=
  ⟨h.old, h.now, h.pre, h.le⟩
theorem Own2.below {a w w' : World} {B n0 n : Nat} {v0 v : Value} {xs0 xs : List Value} (h : Own2 w B v0 n0 xs0 v n xs) (hb : Below B a w) (hg : w.grownBy w' v.ownBlock) (hB : B ≤ w.heap.size) : Below B a w' :=
  hb.grown hg hB (fun k hk => (h.now.lt k hk).1)
/-- A block of another type is none of the value's. -/
theorem own_ne {w : World} {B n : Nat} {v : Value} {xs : List Value} (h : w.ownsRow B 5 1 v n xs) {k : Nat} {cs : Array Value} {t : TypeId} {f : Nat × Nat} (hk : w.heap[k]? = some (.cells cs t f)) (ht : t ≠ 5) : some k ≠ v.ownBlock := by
  intro e
  rcases h.2 with ⟨rfl, _⟩ | ⟨g, cap, cur, rfl, _, hg, _⟩
  · simp [Value.ownBlock] at e
  · simp [Value.ownBlock] at e
    subst e
    rw [hk] at hg
    simp at hg
    exact ht hg.2.1

theorem step_append2_str {ops : Array Oper} {o : Oper} {a : Act} {w : World} {K : Act → World → Prop} {Q : Exit → Act → World → Prop} {E : Prop} (hgd : o.guard = none) (sl x : Operand)
    (ho : o.op = .call { callee := .builtin .append, args := #[sl, x], argTypes := #[22, 9] }) (B : Nat) (v0 v : Value) (n0 n : Nat) (xs0 xs : List Value) (hs : a.eval sl = v) (s : ByteArray) (hx : a.eval x = .string s) (hown : Own2 w B v0 n0 xs0 v n xs)
    (h63 : n + s.size ≤ 140737488355328) (hB : B ≤ w.heap.size)
    (h : ∀ v' w', Own2 w' B v0 n0 xs0 v' (n + s.size) (xs ++ Lib.strCells s) → w.grownBy w' v.ownBlock → K (a.put o.dst v') w') :
    if Region.wanted o (yielded ops a.tmps) = true then Oper.wp Yba.prog o a w K Q else E := by
  have hw : Region.wanted o (yielded ops a.tmps) = true := by simp [Region.wanted, hgd]
  rw [if_pos hw]
  obtain ⟨i, hi, hz, hs1, hby⟩ := info_parts Yba.info5
  obtain ⟨v', w', hr, h2, h3, h4⟩ := Lib.run_append_own_string (P := Yba.prog) w B 22 9 o.type 5 i Yba.underlying22 Yba.underlying9 hi hz hs1 hby v n xs hown.now s (by unfold maxLen; omega) h63 hB
  have hk := keeps_str hown.now s h63 hr
  unfold Oper.wp execOp
  simp only [ho, resolve, invoke, builtin, Sem.run_bind, Sem.run_pure, Result.andThen_ok, List.map_toArray, List.map_cons, List.map_nil, hs, hx, hr]
  exact h v' w' (hown.step h2 hk h3) h3

theorem step_append2_one {ops : Array Oper} {o : Oper} {a : Act} {w : World} {K : Act → World → Prop} {Q : Exit → Act → World → Prop} {E : Prop} (hgd : o.guard = none) (sl x : Operand)
    (ho : o.op = .call { callee := .builtin .append, args := #[sl, x], argTypes := #[22, 22] }) (B : Nat) (v0 v : Value) (n0 n : Nat) (xs0 xs : List Value) (hs : a.eval sl = v) (b off c : Nat) (y : Int) (hx : a.eval x = .slice (some ⟨b, off, none⟩) 1 c) (hown : Own2 w B v0 n0 xs0 v n xs)
    (hy : w.cell? ⟨b, off, none⟩ = some (.int .u8 y)) (h63 : n + 1 ≤ 140737488355328) (hB : B ≤ w.heap.size)
    (h : ∀ v' w', Own2 w' B v0 n0 xs0 v' (n + 1) (xs ++ [.int .u8 y]) → w.grownBy w' v.ownBlock → K (a.put o.dst v') w') :
    if Region.wanted o (yielded ops a.tmps) = true then Oper.wp Yba.prog o a w K Q else E := by
  have hw : Region.wanted o (yielded ops a.tmps) = true := by simp [Region.wanted, hgd]
  rw [if_pos hw]
  obtain ⟨i, hi, hz, hs1, hby⟩ := info_parts Yba.info5
  obtain ⟨v', w', hr, h2, h3, h4⟩ := run_append_own (P := Yba.prog) w B 22 o.type 5 i (.int .u8 0) 1 1 Yba.underlying22 hi hz hs1 hby rfl (by decide) v n xs hown.now ⟨b, off, none⟩ 1 c [.int .u8 y] rfl
    (by
      intro j u hj
      rcases j with _ | j
      · simp at hj
        subst hj
        rw [show (⟨b, off, none⟩ : Addr).add 0 = ⟨b, off, none⟩ by unfold Addr.add; split <;> simp_all]
        exact hy
      · simp at hj) (by intro u hu; simp at hu; subst hu; rfl) (by unfold maxLen; omega) (by omega) hB
  have hk := keeps_one hown.now ⟨b, off, none⟩ c (.int .u8 y) hy rfl rfl h63 hr
  unfold Oper.wp execOp
  simp only [ho, resolve, invoke, builtin, Sem.run_bind, Sem.run_pure, Result.andThen_ok, List.map_toArray, List.map_cons, List.map_nil, hs, hx, hr]
  exact h v' w' (hown.step h2 hk h3) h3

theorem heap_alloc_self (w : World) (o : Obj) : (w.alloc o).heap[w.heap.size]? = some o := by
  unfold World.alloc
  simp
theorem box_kept {w w1 : World} {B n : Nat} {v : Value} {xs : List Value} {o : Obj} (h : w.ownsRow B 5 1 v n xs) (hg : (w.alloc o).drew.grownBy w1 v.ownBlock) : w1.heap[w.heap.size]? = some o := by
  rw [hg.block w.heap.size (by simp [World.drew]) (by intro e; have := (h.lt _ e.symm).2; omega)]
  exact heap_alloc_self w o
theorem slash_kept {w w1 : World} {B n : Nat} {v : Value} {xs : List Value} {o o2 : Obj} (h : w.ownsRow B 5 1 v n xs) (hg : ((w.alloc o).alloc o2).drew.grownBy w1 v.ownBlock) : w1.heap[w.heap.size]? = some o ∧ w1.heap[w.heap.size + 1]? = some o2 := by
  constructor
  · rw [hg.block w.heap.size (by simp [World.drew]; omega) (by intro e; have := (h.lt _ e.symm).2; omega)]
    show ((w.alloc o).alloc o2).heap[w.heap.size]? = _
    rw [Below.heap_alloc _ _ _ (by simp)]
    exact heap_alloc_self w o
  · rw [hg.block (w.heap.size + 1) (by simp [World.drew]) (by intro e; have := (h.lt _ e.symm).2; omega)]
    have := heap_alloc_self (w.alloc o) o2
    rw [show (w.alloc o).heap.size = w.heap.size + 1 by simp] at this
    exact this

def fileOf (name : ByteArray) (d size : Int) : Value := .agg #[.string name, .int .i64 d, .int .i64 size, .int .u64 0, .int .u64 0, .int .i64 0, .int .i64 0, .int .i32 0, .int .i32 0]
def Box (name : ByteArray) (d size : Int) : Obj := .cells #[.string name, .int .i64 d, .int .i64 size, .int .u64 0, .int .u64 0, .int .i64 0, .int .i64 0, .int .i32 0, .int .i32 0] 35

theorem path_fin1 {w w1 w2 : World} {B n0 n n1 : Nat} {v0 v v1 : Value} {xs0 xs xs1 : List Value} {name : ByteArray} {d size : Int} {o : Obj} (hown : Own2 w B v0 n0 xs0 v n xs) (hB : B ≤ w.heap.size) (hown1 : Own2 w1 B v0 n0 xs0 v1 n1 xs1)
    (hg1 : (w.alloc (Box name d size)).drew.grownBy w1 v.ownBlock) (hg2 : (w1.alloc o).grownBy w2 v1.ownBlock) : Below B w w2 ∧ B ≤ w2.heap.size ∧ w2.heap[w.heap.size]? = some (Box name d size) := by
  have hb0 : Below B w (w.alloc (Box name d size)).drew := ((Below.refl _ _).alloc hB _).drew
  have hb1 : Below B w w1 := (hown.alloc _).drew.below hb0 hg1 (by have := hb0.size; omega)
  have hB1 : B ≤ w1.heap.size := by have := hb1.size; omega
  have hb2 : Below B w w2 := (hown1.alloc o).below (hb1.alloc hB1 o) hg2 (by simp; omega)
  have hx := box_kept hown.now hg1
  have hx1 : (w1.alloc o).heap[w.heap.size]? = some (Box name d size) := by
    rw [Below.heap_alloc _ _ _ (by have := hg1.size; simp [World.drew] at this; omega)]
    exact hx
  refine ⟨hb2, by have := hb2.size; omega, ?_⟩
  rw [hg2.block _ (by have := hg1.size; simp [World.drew] at this; simp; omega) (own_ne (hown1.alloc o).now hx1 (by decide))]
  exact hx1
theorem path_fin2 {w w1 w2 : World} {B n0 n n1 : Nat} {v0 v v1 : Value} {xs0 xs xs1 : List Value} {name : ByteArray} {d size : Int} {o : Obj} (hown : Own2 w B v0 n0 xs0 v n xs) (hB : B ≤ w.heap.size) (hown1 : Own2 w1 B v0 n0 xs0 v1 n1 xs1)
    (hg1 : ((w.alloc (Box name d size)).alloc o).drew.grownBy w1 v.ownBlock) (hg2 : w1.grownBy w2 v1.ownBlock) : Below B w w2 ∧ B ≤ w2.heap.size ∧ w2.heap[w.heap.size]? = some (Box name d size) := by
  have hb0 : Below B w ((w.alloc (Box name d size)).alloc o).drew := (((Below.refl _ _).alloc hB _).alloc (by simp; omega) _).drew
  have hb1 : Below B w w1 := ((hown.alloc _).alloc _).drew.below hb0 hg1 (by have := hb0.size; omega)
  have hB1 : B ≤ w1.heap.size := by have := hb1.size; omega
  have hb2 : Below B w w2 := hown1.below hb1 hg2 hB1
  have hx := (slash_kept hown.now hg1).1
  refine ⟨hb2, by have := hb2.size; omega, ?_⟩
  rw [hg2.block _ (by have := hg1.size; simp [World.drew] at this; omega) (own_ne hown1.now hx (by decide))]
  exact hx

set_option maxHeartbeats 400000 in
set_option maxRecDepth 100000 in
theorem path_neg (f : Value) (B : Nat) (v0 v : Value) (n0 n : Nat) (xs0 xs : List Value) (name : ByteArray) (d size : Int) (w : World) (hown : Own2 w B v0 n0 xs0 v n xs) (hB : B ≤ w.heap.size) (hd : d < 0) (hn : n + name.size ≤ 140737488355328) :
    Calls Yba.prog 7 #[f, v, fileOf name d size] w fun e w' => ∃ v', e = .returned v' ∧ Own2 w' B v0 n0 xs0 v' (n + name.size) (xs ++ Lib.strCells name) ∧ Below B w w' := by
  unfold fileOf
  go_enter Yba.func7, Yba.ntmps7
  go_wp2_with (at_builtin; refine wpList_append2_str rfl _ _ rfl B v0 v n0 n xs0 xs rfl (hown.alloc _) name rfl (by omega) (by simp; omega) ?_)
  intro v' w1 hown1 hg1
  go_wp2
  go_ret
  exact ⟨v', rfl, hown1, (hown.alloc _).below ((Below.refl _ _).alloc hB _) hg1 (by simp; omega)⟩

set_option maxHeartbeats 1000000 in
set_option maxRecDepth 100000 in
theorem path_pos (fb kb ko kn kc : Nat) (fc : Array Value) (B : Nat) (v0 v : Value) (n0 n : Nat) (xs0 xs : List Value) (name dir : ByteArray) (d : Nat) (size : Int) (w : World) (hown : Own2 w B v0 n0 xs0 v n xs) (hB : B ≤ w.heap.size)
    (hf : w.cell? ⟨fb, 1, none⟩ = some (.slice (some ⟨kb, ko, none⟩) kn kc)) (hk : w.cell? ⟨kb, ko + d, none⟩ = some (.string dir)) (hd : d < kn) (hkn : kn ≤ 1048576) (hn : n + dir.size + 1 + name.size ≤ 140737488355328) :
    Calls Yba.prog 7 #[.pointer (some ⟨fb, 0, none⟩), v, fileOf name d size] w fun e w' => ∃ v', e = .returned v' ∧ Own2 w' B v0 n0 xs0 v' (n + dir.size + 1 + name.size) (xs ++ (Lib.strCells dir ++ .int .u8 47 :: Lib.strCells name)) ∧ Below B w w' := by
  unfold fileOf
  have hfl := World.block_lt_of_cell? _ _ hf
  have hkl := World.block_lt_of_cell? _ _ hk
  have hdk : (d : Int) < (kn : Int) := by omega
  go_enter Yba.func7, Yba.ntmps7
  go_upto_region 2 with fail
  go_cut [1] (fun v' wx => Own2 wx B v0 n0 xs0 v' (n + dir.size + 1) (xs ++ (Lib.strCells dir ++ [.int .u8 47])) ∧ Below B w wx ∧ B ≤ wx.heap.size ∧ wx.heap[w.heap.size]? = some (Box name d size))
  case first =>
    go_region_law (first
      | (refine step_append2_str rfl _ _ rfl B v0 v n0 n xs0 xs rfl dir rfl ?_ (by omega) (by simp; omega) ?_; (first | exact (hown.alloc _).drew | exact ((hown.alloc _).drew).alloc _); intro v1 w1 hown1 hg1; have hs1 := hg1.size; simp at hs1)
      | (refine step_append2_one rfl _ _ rfl B v0 v1 n0 (n + dir.size) xs0 (xs ++ Lib.strCells dir) rfl _ _ _ 47 rfl (by first | exact hown1 | exact hown1.alloc _) (by first | (simp; done) | (rw [World.cell?, (slash_kept hown.now hg1).2]; rfl)) (by omega) (by first | omega | (simp; omega)) ?_; intro v2 w2 hown2 hg2))
    all_goals
      go_wp2
      go_meet
      exact ⟨by simpa using hown2, by first | exact path_fin1 hown hB hown1 hg1 hg2 | exact path_fin2 hown hB hown1 hg1 hg2⟩
  case rest =>
    obtain ⟨hown1, hb1, hB1, hbox⟩ := hcut
    obtain ⟨wz, h⟩ : ∃ wz, wz = wc := ⟨_, rfl⟩
    subst h
    have hcell : wz.cell? ⟨w.heap.size, 0, none⟩ = some (.string name) := by
      rw [World.cell?, hbox]
      rfl
    go_wp2_with (at_builtin; refine wpList_append2_str rfl _ _ rfl B v0 _ n0 _ xs0 _ rfl hown1 name rfl (by omega) (by omega) ?_)
    intro v' w1 hown2 hg1
    go_wp2
    go_ret
    exact ⟨v', rfl, hown2, hown1.below hb1 hg1 hB1⟩
end Go.Proofs.Ybulkdocu
