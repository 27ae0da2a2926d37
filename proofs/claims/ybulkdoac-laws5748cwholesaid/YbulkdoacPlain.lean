/-
  S5748C: THE PLAIN PART: rows of pairs in memory; spans; what trim keeps. No walk here.
-/
import Derived.Test.YbulkdoacRows
import Derived.WalkKit
import Derived.Below
import Derived.WalkSmall
import Derived.Laws.CopyOwn
namespace Go.Proofs.Ybulkdoac.lawS5748CWhole
open Go.RowKit

/-! ### Pairs, two cells each -/
def flat : List (Int × Int) → List Value
  | [] => []
  | p :: r => .int .u64 p.1 :: .int .i64 p.2 :: flat r

theorem flat_length : ∀ us, (flat us).length = us.length * 2
  | [] => rfl
  | p :: r => by simp [flat, flat_length r]; omega
theorem flat_get0 : ∀ (us : List (Int × Int)) (i : Nat), (flat us)[i * 2]? = us[i]?.map fun p => Value.int .u64 p.1
  | [], i => by simp [flat]
  | p :: r, 0 => by simp [flat]
  | p :: r, i + 1 => by
    rw [show (i + 1) * 2 = i * 2 + 1 + 1 by omega, flat, List.getElem?_cons_succ, List.getElem?_cons_succ, flat_get0 r i, List.getElem?_cons_succ]
theorem flat_get1 : ∀ (us : List (Int × Int)) (i : Nat), (flat us)[i * 2 + 1]? = us[i]?.map fun p => Value.int .i64 p.2
  | [], i => by simp [flat]
  | p :: r, 0 => by simp [flat]
  | p :: r, i + 1 => by
    rw [show (i + 1) * 2 + 1 = i * 2 + 1 + 1 + 1 by omega, flat, List.getElem?_cons_succ, List.getElem?_cons_succ, flat_get1 r i, List.getElem?_cons_succ]
theorem flat_set : ∀ (us : List (Int × Int)) (i : Nat) (a b : Int), ((flat us).set (i * 2) (.int .u64 a)).set (i * 2 + 1) (.int .i64 b) = flat (us.set i (a, b))
  | [], i, a, b => by simp [flat]
  | p :: r, 0, a, b => by simp [flat]
  | p :: r, i + 1, a, b => by
    rw [show (i + 1) * 2 = i * 2 + 1 + 1 by omega, flat, List.set_cons_succ, List.set_cons_succ, List.set_cons_succ, List.set_cons_succ, flat_set r i a b, List.set_cons_succ, flat]
theorem flat_append : ∀ us vs, flat (us ++ vs) = flat us ++ flat vs
  | [], vs => rfl
  | p :: r, vs => by simp [flat, flat_append r vs]
theorem flat_take : ∀ (us : List (Int × Int)) (k : Nat), (flat us).take (k * 2) = flat (us.take k)
  | [], k => by simp [flat]
  | p :: r, 0 => by simp [flat]
  | p :: r, k + 1 => by rw [show (k + 1) * 2 = k * 2 + 1 + 1 by omega, flat, List.take_succ_cons, List.take_succ_cons, flat_take r k, List.take_succ_cons, flat]
theorem flat_drop : ∀ (us : List (Int × Int)) (k : Nat), (flat us).drop (k * 2) = flat (us.drop k)
  | [], k => by simp [flat]
  | p :: r, 0 => by simp [flat]
  | p :: r, k + 1 => by rw [show (k + 1) * 2 = k * 2 + 1 + 1 by omega, flat, List.drop_succ_cons, List.drop_succ_cons, flat_drop r k, List.drop_succ_cons]
theorem flat_one : ∀ (us : List (Int × Int)), ∀ v ∈ flat us, v.oneCell' = true
  | [], v, h => by simp [flat] at h
  | p :: r, v, h => by
    simp only [flat, List.mem_cons] at h
    rcases h with rfl | rfl | h
    · rfl
    · rfl
    · exact flat_one r v h
theorem flat_made (n : Nat) : (madeCells #[Value.int .u64 0, Value.int .i64 0] (n * 2)).toList = flat (List.replicate n (0, 0)) := by
  apply List.ext_getElem?
  intro j
  have hm : ∀ j, (madeCells #[Value.int .u64 0, Value.int .i64 0] (n * 2)).toList[j]? = if j < n * 2 then some (if j % 2 = 0 then .int .u64 0 else .int .i64 0) else none := by
    intro j
    by_cases hj : j < n * 2
    · have h2 : j % 2 = 0 ∨ j % 2 = 1 := by omega
      rcases h2 with h2 | h2 <;> simp [madeCells, hj, h2]
    · simp [madeCells, hj]
  rw [hm]
  obtain ⟨i, e⟩ : ∃ i, j = i * 2 ∨ j = i * 2 + 1 := ⟨j / 2, by omega⟩
  rcases e with rfl | rfl
  · rw [flat_get0, List.getElem?_replicate]
    by_cases hi : i < n
    · simp [hi, show i * 2 < n * 2 by omega]
    · simp [hi, show ¬ i * 2 < n * 2 by omega]
  · rw [flat_get1, List.getElem?_replicate]
    by_cases hi : i < n
    · have hz : (i * 2 + 1) % 2 = 1 := by omega
      simp [hi, hz, show i * 2 + 1 < n * 2 by omega]
    · simp [hi, show ¬ i * 2 + 1 < n * 2 by omega]

/-! ### A row of pairs that is known whole -/
def RowAt (w : World) (g : Nat) (us : List (Int × Int)) : Prop := w.heap[g]? = some (.cells (flat us).toArray 28 (0, 0))

/-- The pair at k. -/
def pr (us : List (Int × Int)) (k : Nat) : Int × Int := us[k]?.getD (0, 0)
def at0 (us : List (Int × Int)) (k : Nat) : Int := (pr us k).1
def us1 (us : List (Int × Int)) (k : Nat) : Int := (pr us k).2

theorem RowAt.c0 {w : World} {g : Nat} {us : List (Int × Int)} (h : RowAt w g us) (k : Nat) (hk : k < us.length) : w.cell? ⟨g, k * 2, none⟩ = some (.int .u64 (at0 us k)) := by
  have e : (flat us)[k * 2]? = some (.int .u64 (at0 us k)) := by rw [flat_get0]; simp [at0, pr, List.getElem?_eq_getElem hk]
  rw [World.cell?, h]
  simpa using e
theorem RowAt.c1 {w : World} {g : Nat} {us : List (Int × Int)} (h : RowAt w g us) (k : Nat) (hk : k < us.length) : w.cell? ⟨g, k * 2 + 1, none⟩ = some (.int .i64 (us1 us k)) := by
  have e : (flat us)[k * 2 + 1]? = some (.int .i64 (us1 us k)) := by rw [flat_get1]; simp [us1, pr, List.getElem?_eq_getElem hk]
  rw [World.cell?, h]
  simpa using e
theorem RowAt.fr {w : World} {g : Nat} {us : List (Int × Int)} (h : RowAt w g us) (j : Nat) : w.frozen? ⟨g, j, none⟩ = false := frozen_of_row w g j _ 28 h
theorem RowAt.lt {w : World} {g : Nat} {us : List (Int × Int)} (h : RowAt w g us) : g < w.heap.size := (Array.getElem?_eq_some_iff.1 h).1
theorem RowAt.set {w : World} {g : Nat} {us : List (Int × Int)} (h : RowAt w g us) (k : Nat) (a b : Int) :
    RowAt ((w.setCell ⟨g, k * 2, none⟩ (.int .u64 a)).setCell ⟨g, k * 2 + 1, none⟩ (.int .i64 b)) g (us.set k (a, b)) := by
  have h1 := heap_setCell_same w g (k * 2) _ 28 (.int .u64 a) h
  have h2 := heap_setCell_same (w.setCell ⟨g, k * 2, none⟩ (.int .u64 a)) g (k * 2 + 1) _ 28 (.int .i64 b) h1
  unfold RowAt
  rw [h2, ← flat_set]
  simp
theorem RowAt.of_block {w w' : World} {g : Nat} {us : List (Int × Int)} (h : RowAt w g us) (e : w'.heap[g]? = w.heap[g]?) : RowAt w' g us := by unfold RowAt; rw [e]; exact h
theorem row_of_owns {w : World} {base n g : Nat} {us : List (Int × Int)} (h : w.ownsRow base 28 2 (.slice (some ⟨g, 0, none⟩) n n) n (flat us)) : RowAt w g us := by
  rcases h.2 with ⟨h', _⟩ | ⟨g', cap', cur, h', _, hg, _, _, hs, htake⟩
  · simp at h'
  · simp only [Value.slice.injEq, Option.some.injEq, Addr.mk.injEq, and_true, true_and] at h'
    obtain ⟨rfl, rfl⟩ := h'
    rw [List.take_of_length_le (by rw [Array.length_toList, hs]; exact Nat.le_refl _)] at htake
    unfold RowAt
    rw [hg, ← htake]

/-! ### What has turned: the blocks g and s alone, of those that were there -/
structure Kept2 (g s : Nat) (w w' : World) : Prop where
  os : w'.os = w.os
  tape : w'.tape = w.tape
  output : w'.output = w.output
  size : w.heap.size ≤ w'.heap.size
  block : ∀ k, k < w.heap.size → k ≠ g → k ≠ s → w'.heap[k]? = w.heap[k]?
theorem Kept2.refl (g s : Nat) (w : World) : Kept2 g s w w := ⟨rfl, rfl, rfl, Nat.le_refl _, fun _ _ _ _ => rfl⟩
theorem Kept2.trans {g s : Nat} {a b c : World} (h : Kept2 g s a b) (k : Kept2 g s b c) : Kept2 g s a c :=
  ⟨k.os.trans h.os, k.tape.trans h.tape, k.output.trans h.output, Nat.le_trans h.size k.size, fun i hi h1 h2 => (k.block i (Nat.lt_of_lt_of_le hi h.size) h1 h2).trans (h.block i hi h1 h2)⟩
theorem Kept2.drewN {g s : Nat} {a b : World} (h : Kept2 g s a b) (n : Nat) : Kept2 g s a (b.drewN n) := ⟨h.os, h.tape, h.output, h.size, h.block⟩
theorem Kept2.drew {g s : Nat} {a b : World} (h : Kept2 g s a b) : Kept2 g s a b.drew := ⟨h.os, h.tape, h.output, h.size, h.block⟩
theorem Kept2.alloc {g s : Nat} {a b : World} (h : Kept2 g s a b) (o : Obj) : Kept2 g s a (b.alloc o) :=
  h.trans ⟨rfl, rfl, rfl, by simp, fun k hk _ _ => Below.heap_alloc _ _ _ hk⟩
theorem Kept2.setG {g s : Nat} {a b : World} (h : Kept2 g s a b) (o : Nat) (v : Value) : Kept2 g s a (b.setCell ⟨g, o, none⟩ v) :=
  h.trans ⟨rfl, rfl, rfl, by simp [World.setCell], fun k _ hk _ => Below.heap_setCell _ _ _ _ hk⟩
theorem Kept2.setS {g s : Nat} {a b : World} (h : Kept2 g s a b) (o : Nat) (v : Value) : Kept2 g s a (b.setCell ⟨s, o, none⟩ v) :=
  h.trans ⟨rfl, rfl, rfl, by simp [World.setCell], fun k _ _ hk => Below.heap_setCell _ _ _ _ hk⟩
theorem Kept2.below {g s B : Nat} {w0 w w' : World} (h : Below B w0 w) (hk : Kept2 g s w w') (hB : B ≤ w.heap.size) (hg : B ≤ g) (hs : B ≤ s) : Below B w0 w' :=
  h.trans ⟨hk.os, hk.tape, hk.output, hk.size, fun k hlt => hk.block k (by omega) (by omega) (by omega)⟩

/-! ### The span of the stamps in use, and what trim keeps -/
/-- lo, hi: the first and the last stamp whose uses are not zero bound the span; where there is none: both are the length. -/
def Span (us : List (Int × Int)) (lo hi : Nat) : Prop :=
  (∀ j, j < lo → us1 us j = 0) ∧ (∀ j, hi ≤ j → j < us.length → us1 us j = 0) ∧ ((lo = us.length ∧ hi = us.length) ∨ (lo < hi ∧ hi ≤ us.length ∧ us1 us lo ≠ 0 ∧ us1 us (hi - 1) ≠ 0))

theorem Span.unique {us : List (Int × Int)} {a b c d : Nat} (h : Span us a b) (k : Span us c d) : a = c ∧ b = d := by
  obtain ⟨h1, h2, h3⟩ := h
  obtain ⟨k1, k2, k3⟩ := k
  rcases h3 with ⟨rfl, rfl⟩ | ⟨h3, h4, h5, h6⟩
  · rcases k3 with ⟨rfl, rfl⟩ | ⟨k3, k4, k5, k6⟩
    · exact ⟨rfl, rfl⟩
    · exact absurd (h1 c (by omega)) k5
  · rcases k3 with ⟨rfl, rfl⟩ | ⟨k3, k4, k5, k6⟩
    · exact absurd (k1 a (by omega)) h5
    · constructor
      · rcases Nat.lt_trichotomy a c with e | e | e
        · exact absurd (k1 a e) h5
        · exact e
        · exact absurd (h1 c e) k5
      · rcases Nat.lt_trichotomy b d with e | e | e
        · exact absurd (h2 (d - 1) (by omega) (by omega)) k6
        · exact e
        · exact absurd (k2 (b - 1) (by omega) (by omega)) h6

/-- F laid over vs from st on. -/
def put (vs : List (Int × Int)) (st : Nat) (F : List (Int × Int)) : List (Int × Int) := vs.take st ++ (F ++ vs.drop (st + F.length))
theorem put_nil (vs : List (Int × Int)) (st : Nat) : put vs st [] = vs := by simp [put]
theorem put_length (vs : List (Int × Int)) (st : Nat) (F : List (Int × Int)) (h : st + F.length ≤ vs.length) : (put vs st F).length = vs.length := by simp [put]; omega
theorem put_step (vs : List (Int × Int)) (st : Nat) (F : List (Int × Int)) (x : Int × Int) (h : st + F.length < vs.length) : (put vs st F).set (st + F.length) x = put vs st (F ++ [x]) := by
  unfold put
  have h1 : (vs.take st).length = st := by simp; omega
  rw [List.set_append_right _ _ (by omega), h1, Nat.add_sub_cancel_left, List.set_append_right _ _ (Nat.le_refl _), Nat.sub_self, List.drop_eq_getElem_cons h, List.set_cons_zero]
  simp [Nat.add_assoc]
theorem put_past (vs : List (Int × Int)) (st : Nat) (F : List (Int × Int)) (i : Nat) (h : st + F.length ≤ vs.length) (hi : F.length ≤ i) : pr (put vs st F) (st + i) = pr vs (st + i) := by
  unfold pr put
  have h1 : (vs.take st).length = st := by simp; omega
  rw [List.getElem?_append_right (by omega), h1, Nat.add_sub_cancel_left, List.getElem?_append_right hi, List.getElem?_drop]
  congr 2
  omega
theorem put_in (vs : List (Int × Int)) (st : Nat) (F : List (Int × Int)) (i : Nat) (h : st + F.length ≤ vs.length) (hi : i < F.length) : pr (put vs st F) (st + i) = pr F i := by
  unfold pr put
  have h1 : (vs.take st).length = st := by simp; omega
  rw [List.getElem?_append_right (by omega), h1, Nat.add_sub_cancel_left, List.getElem?_append_left hi]

/-- The span itself. -/
def seg (us : List (Int × Int)) (lo hi : Nat) : List (Int × Int) := (us.drop lo).take (hi - lo)
theorem seg_length (us : List (Int × Int)) (lo hi : Nat) (h : hi ≤ us.length) : (seg us lo hi).length = hi - lo := by simp [seg]; omega
theorem seg_at (us : List (Int × Int)) (lo hi i : Nat) (h : lo + i < hi) : pr (seg us lo hi) i = pr us (lo + i) := by
  simp [pr, seg, show i < hi - lo by omega]

/-- Those of the first i that are in use. -/
def keepTo (us : List (Int × Int)) : Nat → List (Int × Int)
  | 0 => []
  | i + 1 => keepTo us i ++ if 0 < us1 us i then [pr us i] else []
theorem keepTo_le (us : List (Int × Int)) : ∀ i, (keepTo us i).length ≤ i
  | 0 => by simp [keepTo]
  | i + 1 => by have := keepTo_le us i; rw [keepTo]; split <;> simp <;> omega
theorem keepTo_hit (us : List (Int × Int)) (i : Nat) (h : 0 < us1 us i) : keepTo us (i + 1) = keepTo us i ++ [pr us i] := by rw [keepTo, if_pos h]
theorem keepTo_miss (us : List (Int × Int)) (i : Nat) (h : ¬ 0 < us1 us i) : keepTo us (i + 1) = keepTo us i := by rw [keepTo, if_neg h]; simp

end Go.Proofs.Ybulkdoac.lawS5748CWhole
