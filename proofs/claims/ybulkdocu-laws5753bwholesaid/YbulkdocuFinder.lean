/-
  S5753B: WHAT THE FINDER ANSWERS.
-/
import Derived.Test.YbulkdocuSearch
import Derived.Laws.Rows
namespace Go.Proofs.Ybulkdocu
open Go.RowKit Go.Sort
set_option linter.unusedVariables false
set_option linter.unusedSimpArgs false

/-- The least index from m on whose key is q; or none. -/
def Want (K : List Nat) (m n q r : Nat) (ok : Bool) : Prop :=
  (ok = true ∧ m ≤ r ∧ r < n ∧ K.getD r 0 = q ∧ ∀ i, m ≤ i → i < r → K.getD i 0 ≠ q) ∨ (ok = false ∧ r = 0 ∧ ∀ i, m ≤ i → i < n → K.getD i 0 ≠ q)
theorem Want.unique {K : List Nat} {m n q r r' : Nat} {ok ok' : Bool} (h : Want K m n q r ok) (h' : Want K m n q r' ok') : r = r' ∧ ok = ok' := by
  rcases h with ⟨rfl, h1, h2, h3, h4⟩ | ⟨rfl, rfl, h1⟩ <;> rcases h' with ⟨rfl, g1, g2, g3, g4⟩ | ⟨rfl, rfl, g1⟩
  · refine ⟨?_, rfl⟩
    rcases Nat.lt_trichotomy r r' with h | h | h
    · exact absurd h3 (g4 r h1 h)
    · exact h
    · exact absurd g3 (h4 r' g1 h)
  · exact absurd h3 (g1 r h1 h2)
  · exact absurd g3 (h1 r' g1 g2)
  · exact ⟨rfl, rfl⟩

/-- The indexes from m on, in the order of their names. -/
structure Sorted (K : List Nat) (m n N : Nat) (D : Nat → Nat) : Prop where
  all : ∀ i, m ≤ i → i < n → ∃ t, t < N ∧ D t = i
  ge : ∀ t, t < N → m ≤ D t
  lt : ∀ t, t < N → D t < n
  ord : ∀ a b, a < b → b < N → K.getD (D a) 0 < K.getD (D b) 0 ∨ (K.getD (D a) 0 = K.getD (D b) 0 ∧ D a < D b)
theorem Sorted.mono {K : List Nat} {m n N : Nat} {D : Nat → Nat} (h : Sorted K m n N D) : ∀ a b, a ≤ b → b < N → K.getD (D a) 0 ≤ K.getD (D b) 0 := by
  intro a b hab hb
  rcases Nat.lt_or_ge a b with h1 | h1
  · rcases h.ord a b h1 hb with h2 | h2 <;> omega
  · have : a = b := by omega
    subst this
    exact Nat.le_refl _
theorem Sorted.found {K : List Nat} {m n N q p : Nat} {D : Nat → Nat} (h : Sorted K m n N D) (hp : Pos N q (fun t => K.getD (D t) 0) p) (hf : p < N ∧ K.getD (D p) 0 = q) : Want K m n q (D p) true := by
  refine .inl ⟨rfl, h.ge p hf.1, h.lt p hf.1, hf.2, fun i h1 h2 he => ?_⟩
  obtain ⟨t, ht, rfl⟩ := h.all i h1 (by have := h.lt p hf.1; omega)
  rcases Nat.lt_trichotomy t p with h3 | h3 | h3
  · have := hp.2.1 t h3
    simp only at this
    omega
  · subst h3
    omega
  · rcases h.ord p t h3 ht with h4 | h4 <;> omega
theorem Sorted.none {K : List Nat} {m n N q p : Nat} {D : Nat → Nat} (h : Sorted K m n N D) (hp : Pos N q (fun t => K.getD (D t) 0) p) (hf : ¬ (p < N ∧ K.getD (D p) 0 = q)) : Want K m n q 0 false := by
  refine .inr ⟨rfl, rfl, fun i h1 h2 he => ?_⟩
  obtain ⟨t, ht, rfl⟩ := h.all i h1 h2
  rcases Nat.lt_or_ge t p with h3 | h3
  · have := hp.2.1 t h3
    simp only at this
    omega
  · have h4 := hp.2.2 p (Nat.le_refl _) (by omega)
    simp only at h4
    have h5 := h.mono p t h3 ht
    exact hf ⟨by omega, by omega⟩

set_option maxHeartbeats 1000000 in
set_option maxRecDepth 100000 in
/-- chunkFinder$2: the finder. -/
theorem find20 (ab an nb n c yb rb N m cap q : Nat) (K : List Nat) (D : Nat → Nat) (w : World) (h : Arch w ab an nb n c K) (hR : Row w rb N n D) (hy : w.cell? ⟨yb, 0, none⟩ = some (.slice (some ⟨rb, 0, none⟩) N cap)) (hS : Sorted K m n N D) (hn : n ≤ 4096) (hN : N ≤ 4096) (hq : q < 12) :
    Calls Yba.prog 20 #[nameV q, .pointer (some ⟨yb, 0, none⟩), .pointer (some ⟨ab, 0, none⟩)] w fun e w' => ∃ (r : Nat) (ok : Bool), e = .returned (.tuple #[.int .i64 r, .bool ok]) ∧ Want K m n q r ok ∧ Grew w w' := by
  have hb0 : Below w.heap.size w (w.alloc (.cells (nameArr q) 40)) := (Below.refl _ _).alloc (Nat.le_refl _) _
  have hA0 := h.kept hb0
  have hR0 := hR.kept hb0
  have hy0 := keep_cell hy hb0
  have hbx := heap_alloc_self w (.cells (nameArr q) 40)
  have HG : Hid (Grew w (w.alloc (.cells (nameArr q) 40))) := (Grew.refl w).alloc _
  have hs40 : (Yba.prog.info? 40).map (·.size) = some (nameArr q).size := size40 q
  have HSRT : Hid (Sorted K m n N D) := hS
  have HSE : Hid (∀ W, Grew (w.alloc (.cells (nameArr q) 40)) W → Calls Yba.prog 21 #[.slice (some ⟨rb, 0, none⟩) N cap, .agg (nameArr q), .func (.func 22) #[] #[.pointer (some ⟨ab, 0, none⟩)]] W fun e w' =>
      ∃ p, e = .returned (.tuple #[.int .i64 (p : Nat), .bool (decide (p < N ∧ K.getD (D p) 0 = q))]) ∧ Pos N q (fun t => K.getD (D t) 0) p ∧ Grew W w') := fun W hW => search ab an nb n c rb N cap q K D W (hA0.kept hW.below) (hR0.kept hW.below) hn hN hq hS.mono
  clear hA0 hS h hR hy hb0
  unfold nameV
  go_enter Yba.func20, Yba.ntmps20
  go_wp2_with (refine wpList_load_row rfl 40 _ rfl w.heap.size rfl 40 _ (0, 0) _ hbx Yba.underlying40 rfl hs40 ?_)
  go_wp2_with fail
  refine (HSE.out _ (Grew.refl _)).mono ?_
  rintro e w1 ⟨p, rfl, hp, hg⟩
  have hy1 := keep_cell hy0 hg.below
  have hR1 := hR0.kept hg.below
  by_cases hf : p < N ∧ K.getD (D p) 0 = q
  · have hc := hR1.cell p hf.1
    have hpz : (p : Int) < (N : Int) := by have := hf.1; omega
    have hW := HSRT.out.found hp hf
    have HW : Hid (Want K m n q (D p) true) := hW
    simp only [hf, decide_true]
    clear hW hp hR1 hR0
    go_wp2
    go_ret2
    exact ⟨D p, true, rfl, HW.out, HG.out.trans hg⟩
  · have hW := HSRT.out.none hp hf
    have HW : Hid (Want K m n q 0 false) := hW
    simp only [hf, decide_false]
    clear hW hp hR1 hR0
    go_wp2
    go_ret2
    exact ⟨0, false, rfl, HW.out, HG.out.trans hg⟩
end Go.Proofs.Ybulkdocu
