/-
  S5753B: slices.BinarySearchFunc AT THIS CLOSURE (the target is an array: no contract on the shelf).
-/
import Derived.Test.YbulkdocuAsk2
import Derived.RegionTactic
namespace Go.Proofs.Ybulkdocu
open Go.RowKit Go.Sort
set_option linter.unusedVariables false
set_option linter.unusedSimpArgs false

/-- The place of q in the ascending row G. -/
def Pos (N q : Nat) (G : Nat → Nat) (p : Nat) : Prop := p ≤ N ∧ (∀ t, t < p → G t < q) ∧ ∀ t, p ≤ t → t < N → q ≤ G t

/-- The sorted row of indexes, as the search reads it. -/
structure Row (w : World) (rb N n : Nat) (D : Nat → Nat) : Prop where
  cell : ∀ t, t < N → w.cell? ⟨rb, t, none⟩ = some (.int .i64 (D t : Nat))
  lt : ∀ t, t < N → D t < n
theorem Row.kept {w w' : World} {rb N n : Nat} {D : Nat → Nat} (h : Row w rb N n D) (hb : Below w.heap.size w w') : Row w' rb N n D :=
  ⟨fun t ht => keep_cell (h.cell t ht) hb, h.lt⟩

theorem cmp3_neg (x y : Nat) : (cmp3 x y < 0) ↔ x < y := by unfold cmp3; split <;> (try split) <;> omega
theorem cmp3_zero (x y : Nat) : (cmp3 x y = 0) ↔ x = y := by unfold cmp3; split <;> (try split) <;> omega

set_option maxHeartbeats 2000000 in
set_option maxRecDepth 100000 in
theorem search (ab an nb n c rb N cap q : Nat) (K : List Nat) (D : Nat → Nat) (w : World) (h : Arch w ab an nb n c K) (hR : Row w rb N n D) (hn : n ≤ 4096) (hN : N ≤ 4096) (hq : q < 12)
    (hmono : ∀ a b, a ≤ b → b < N → K.getD (D a) 0 ≤ K.getD (D b) 0) :
    Calls Yba.prog 21 #[.slice (some ⟨rb, 0, none⟩) N cap, nameV q, .func (.func 22) #[] #[.pointer (some ⟨ab, 0, none⟩)]] w fun e w' =>
      ∃ p, e = .returned (.tuple #[.int .i64 (p : Nat), .bool (decide (p < N ∧ K.getD (D p) 0 = q))]) ∧ Pos N q (fun t => K.getD (D t) 0) p ∧ Grew w w' := by
  have hb0 : Below w.heap.size w (w.alloc (.cells (nameArr q) 40)) := (Below.refl _ _).alloc (Nat.le_refl _) _
  have hA0 := h.kept hb0
  have hR0 := hR.kept hb0
  have hx0 : (w.alloc (.cells (nameArr q) 40)).rangeAt w.heap.size 0 (nameL q) := fun j v hj => by rw [Nat.zero_add]; exact box_cells w q j v hj
  have HG : Hid (Grew w (w.alloc (.cells (nameArr q) 40))) := (Grew.refl w).alloc _
  have hu40 := Yba.underlying40
  have hs2 := size40 q
  have hnv : nameV q = .agg (nameL q).toArray := rfl
  have HM : Hid (∀ a b, a ≤ b → b < N → K.getD (D a) 0 ≤ K.getD (D b) 0) := hmono
  clear hmono h hR hb0
  unfold nameV
  go_enter Yba.func21, Yba.ntmps21
  go_wp2_with fail
  generalize hw0 : w.alloc (.cells (nameArr q) 40) = w0 at *
  have HW0 : Hid (w.alloc (.cells (nameArr q) 40) = w0) := hw0
  clear hw0
  go_loopg [9, 10] N (fun gk v9 v10 wx => ∃ (i j : Nat), i ≤ j ∧ j ≤ N ∧ gk = j - i ∧ v9 = .int .i64 i ∧ v10 = .int .i64 j ∧ Grew w0 wx ∧ (∀ t, t < i → K.getD (D t) 0 < q) ∧ ∀ t, j ≤ t → t < N → q ≤ K.getD (D t) 0)
  case atStart => exact ⟨0, N, by omega, by omega, rfl, rfl, rfl, Grew.refl _, fun t ht => by omega, fun t h1 h2 => by omega⟩
  case round =>
    obtain ⟨i, j, hij, hjN, rfl, rfl, rfl, hg, hlo, hhi⟩ := hrel
    have HLO : Hid (∀ t, t < i → K.getD (D t) 0 < q) := hlo
    have HHI : Hid (∀ t, j ≤ t → t < N → q ≤ K.getD (D t) 0) := hhi
    have HGR : Hid (Grew w0 wr) := hg
    clear hlo hhi
    have hAr := hA0.kept hg.below
    have hRr := hR0.kept hg.below
    have hxr : wr.rangeAt w.heap.size 0 (nameL q) := fun t v ht => keep_cell (hx0 t v ht) hg.below
    by_cases hlt : i < j
    · have hltz : (i : Int) < (j : Int) := by omega
      go_upto_region 5 with fail
      obtain ⟨h, hh⟩ : ∃ h : Nat, ((i : Int) + (j : Int)) / 2 = (h : Int) := ⟨(i + j) / 2, by omega⟩
      rw [hh]
      have hih : i ≤ h := by omega
      have hhj : h < j := by omega
      have hhN : (h : Int) < (N : Int) := by omega
      have hDn := hRr.lt h (by omega)
      have hSS : wr.cell? ⟨rb, h, none⟩ = some (.int .i64 (D h : Nat)) ∧ wr.rangeAt w.heap.size 0 (nameL q) := ⟨hRr.cell h (by omega), hxr⟩
      have HASK : Hid (∀ W, Grew wr W → Calls Yba.prog 22 #[.int .i64 (D h : Nat), .agg (nameL q).toArray, .pointer (some ⟨ab, 0, none⟩)] W fun e w' => e = .returned (.int .i64 (cmp3 (K.getD (D h) 0 : Nat) q)) ∧ Grew W w') :=
        fun W hW => ask22 ab an nb n c (D h) q K W (hAr.kept hW.below) hDn hn hq
      have HKS : Hid (∀ W, Grew wr W → W.cell? ⟨rb, h, none⟩ = some (.int .i64 (D h : Nat)) ∧ W.rangeAt w.heap.size 0 (nameL q)) := fun W hW => ⟨keep_cell hSS.1 hW.below, fun t v ht => keep_cell (hSS.2 t v ht) hW.below⟩
      clear hA0 hR0 hx0 hAr hRr hxr hSS hg
      by_cases hcmp : K.getD (D h) 0 < q
      · have hneg := (cmp3_neg _ _).2 hcmp
        generalize hr : cmp3 (K.getD (D h) 0 : Nat) q = r at *
        clear hr
        go_region_held3 (fun W => W.cell? ⟨rb, h, none⟩ = some (.int .i64 (D h : Nat)) ∧ W.rangeAt w.heap.size 0 (nameL q))
          (first | exact HKS.out _ ((Grew.refl _).drew) | exact HKS.out _ (((Grew.refl _).drew).trans hg))
          (first | (go_at_call 22; refine (HASK.out _ ((Grew.refl _).drew)).mono ?_; rintro e w' ⟨rfl, hg⟩))
        all_goals
          go_wp2
          go_roundg (j - (h + 1))
          case rel =>
            refine ⟨h + 1, j, by omega, by omega, by omega, by go_num, rfl, HGR.out.trans (((Grew.refl _).drew).trans hg), fun t ht => ?_, HHI.out⟩
            exact Nat.lt_of_le_of_lt (HM.out t h (by omega) (by omega)) hcmp
          all_goals omega
      · have hneg : ¬ cmp3 (K.getD (D h) 0 : Nat) q < 0 := fun h' => hcmp ((cmp3_neg _ _).1 h')
        generalize hr : cmp3 (K.getD (D h) 0 : Nat) q = r at *
        clear hr
        go_region_held3 (fun W => W.cell? ⟨rb, h, none⟩ = some (.int .i64 (D h : Nat)) ∧ W.rangeAt w.heap.size 0 (nameL q))
          (first | exact HKS.out _ ((Grew.refl _).drew) | exact HKS.out _ (((Grew.refl _).drew).trans hg))
          (first | (go_at_call 22; refine (HASK.out _ ((Grew.refl _).drew)).mono ?_; rintro e w' ⟨rfl, hg⟩))
        all_goals
          go_wp2
          go_roundg (h - i)
          case rel =>
            refine ⟨i, h, by omega, by omega, by omega, rfl, by go_num, HGR.out.trans (((Grew.refl _).drew).trans hg), HLO.out, fun t h1 h2 => ?_⟩
            exact Nat.le_trans (Nat.le_of_not_lt hcmp) (HM.out h t h1 h2)
          all_goals omega
    · obtain rfl : i = j := by omega
      have HPOS : Hid (Pos N q (fun t => K.getD (D t) 0) i) := ⟨hjN, HLO.out, HHI.out⟩
      go_upto_region 8 with fail
      by_cases hiN : i < N
      · have hiz : (i : Int) < (N : Int) := by omega
        have hDn := hRr.lt i hiN
        have hSS : wr.cell? ⟨rb, i, none⟩ = some (.int .i64 (D i : Nat)) ∧ wr.rangeAt w.heap.size 0 (nameL q) := ⟨hRr.cell i hiN, hxr⟩
        have HASK : Hid (∀ W, Grew wr W → Calls Yba.prog 22 #[.int .i64 (D i : Nat), .agg (nameL q).toArray, .pointer (some ⟨ab, 0, none⟩)] W fun e w' => e = .returned (.int .i64 (cmp3 (K.getD (D i) 0 : Nat) q)) ∧ Grew W w') :=
          fun W hW => ask22 ab an nb n c (D i) q K W (hAr.kept hW.below) hDn hn hq
        have HKS : Hid (∀ W, Grew wr W → W.cell? ⟨rb, i, none⟩ = some (.int .i64 (D i : Nat)) ∧ W.rangeAt w.heap.size 0 (nameL q)) := fun W hW => ⟨keep_cell hSS.1 hW.below, fun t v ht => keep_cell (hSS.2 t v ht) hW.below⟩
        have HZ : Hid ((cmp3 (K.getD (D i) 0 : Nat) q == 0) = decide (i < N ∧ K.getD (D i) 0 = q)) := by
          show (cmp3 (K.getD (D i) 0 : Nat) q == 0) = decide (i < N ∧ K.getD (D i) 0 = q)
          rw [Bool.eq_iff_iff]
          simp [cmp3_zero, hiN]
        clear hA0 hR0 hx0 hAr hRr hxr hSS hg HM
        generalize hr : cmp3 (K.getD (D i) 0 : Nat) q = r at *
        clear hr
        go_region_held3 (fun W => W.cell? ⟨rb, i, none⟩ = some (.int .i64 (D i : Nat)) ∧ W.rangeAt w.heap.size 0 (nameL q))
          (first | exact HKS.out _ ((Grew.refl _).drew) | exact HKS.out _ (((Grew.refl _).drew).trans hg))
          (first | (go_at_call 22; refine (HASK.out _ ((Grew.refl _).drew)).mono ?_; rintro e w' ⟨rfl, hg⟩))
        all_goals
          go_wp2
          go_ret2
          refine ⟨i, ?_, HPOS.out, HG.out.trans (HGR.out.trans (((Grew.refl _).drew).trans hg))⟩
          rw [← HZ.out]
          rfl
      · have hiz : ¬ (i : Int) < (N : Int) := by omega
        have hiz2 : decide ((i : Int) < (N : Int)) = false := decide_eq_false hiz
        have HZ : Hid (decide (i < N ∧ K.getD (D i) 0 = q) = false) := decide_eq_false (fun h => hiN h.1)
        clear hA0 hR0 hx0 hAr hRr hxr hg HM
        go_region
        all_goals
          go_wp2
          go_ret2
          refine ⟨i, ?_, HPOS.out, HG.out.trans (HGR.out.drew)⟩
          show Ending.returned (Value.tuple #[.int .i64 (i : Nat), .bool false]) = _
          simp [hiN]
end Go.Proofs.Ybulkdocu
