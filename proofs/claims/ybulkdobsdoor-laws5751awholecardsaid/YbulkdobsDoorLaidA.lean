/-
  S5751A: WHAT THE LAID CONDITION SAYS OF durationUnits' CELLS.
-/
import Derived.Test.YbulkdobsDoorText
import Derived.OpenShut
import Derived.ChangeArms
import Derived.Lib.LaidTab
namespace Go.Proofs.YbulkdobsDoor
open Go.ChangeShapes Go.WideShapes

theorem cells45 : Ybad.prog.cellsOf 45 = 6 := by kernel_rfl
theorem cells46 : Ybad.prog.cellsOf 46 = 42 := by kernel_rfl
theorem cells5 : Ybad.prog.cellsOf 5 = 1 := by kernel_rfl
theorem cells4 : Ybad.prog.cellsOf 4 = 1 := by kernel_rfl
theorem cells2 : Ybad.prog.cellsOf 2 = 1 := by kernel_rfl

section
variable {H : Type} {enc : TypeId × Value → H} {w : World} {base : Nat} {sp : Nat → Bool} {held : Bool} {fuel : Nat} {cs : List Value} {p : List MemPlace}

def dOne (i : Nat) : DataW H := .agg [.lit (.int .u8 (uDes i)), .lit (.bool (uEx i)), .lit (.bool (uAt i)), .lit (.int .i64 (uSz i)), .lit (.int .i64 (uLim i)), .lit (.bool (uPr i))]

theorem unit_of (i : Nat) (h : DataW.trod enc Ybad.prog w base sp held fuel 45 cs = some (dOne i, p)) : cs = uOne i := by
  obtain ⟨xs, n, rfl, hx, hl, hxl, hf⟩ := DataW.trod_struct Ybad.underlying45 h
  rw [cells45] at hl
  have hxl6 : xs.length = 6 := hxl
  have hd := congrArg Prod.fst hx
  simp only [dOne, DataW.agg.injEq] at hd
  rcases cs with _ | ⟨c0, _ | ⟨c1, _ | ⟨c2, _ | ⟨c3, _ | ⟨c4, _ | ⟨c5, _ | ⟨c6, cs⟩⟩⟩⟩⟩⟩⟩ <;> simp at hl
  rcases xs with _ | ⟨x0, _ | ⟨x1, _ | ⟨x2, _ | ⟨x3, _ | ⟨x4, _ | ⟨x5, _ | ⟨x6, xs⟩⟩⟩⟩⟩⟩⟩ <;> simp at hxl6
  simp only [List.map_cons, List.map_nil, List.cons.injEq, and_true] at hd
  obtain ⟨q0, q1, q2, q3, q4, q5⟩ := hd
  have f0 : DataW.trod enc Ybad.prog w base sp held n 5 (([c0, c1, c2, c3, c4, c5].drop 0).take (Ybad.prog.cellsOf 5)) = some x0 := hf 0 _ rfl
  rw [cells5] at f0
  have f1 : DataW.trod enc Ybad.prog w base sp held n 4 (([c0, c1, c2, c3, c4, c5].drop 1).take (Ybad.prog.cellsOf 4)) = some x1 := hf 1 _ rfl
  rw [cells4] at f1
  have f2 : DataW.trod enc Ybad.prog w base sp held n 4 (([c0, c1, c2, c3, c4, c5].drop 2).take (Ybad.prog.cellsOf 4)) = some x2 := hf 2 _ rfl
  rw [cells4] at f2
  have f3 : DataW.trod enc Ybad.prog w base sp held n 2 (([c0, c1, c2, c3, c4, c5].drop 3).take (Ybad.prog.cellsOf 2)) = some x3 := hf 3 _ rfl
  rw [cells2] at f3
  have f4 : DataW.trod enc Ybad.prog w base sp held n 2 (([c0, c1, c2, c3, c4, c5].drop 4).take (Ybad.prog.cellsOf 2)) = some x4 := hf 4 _ rfl
  rw [cells2] at f4
  have f5 : DataW.trod enc Ybad.prog w base sp held n 4 (([c0, c1, c2, c3, c4, c5].drop 5).take (Ybad.prog.cellsOf 4)) = some x5 := hf 5 _ rfl
  rw [cells4] at f5
  obtain ⟨z0, r0, rfl, _⟩ := DataW.trod_int Ybad.underlying5 f0
  obtain ⟨z1, r1, rfl⟩ := DataW.trod_bool Ybad.underlying4 f1
  obtain ⟨z2, r2, rfl⟩ := DataW.trod_bool Ybad.underlying4 f2
  obtain ⟨z3, r3, rfl, _⟩ := DataW.trod_int Ybad.underlying2 f3
  obtain ⟨z4, r4, rfl, _⟩ := DataW.trod_int Ybad.underlying2 f4
  obtain ⟨z5, r5, rfl⟩ := DataW.trod_bool Ybad.underlying4 f5
  simp at r0 r1 r2 r3 r4 r5 q0 q1 q2 q3 q4 q5
  subst q0 q1 q2 q3 q4 q5
  rw [r0, r1, r2, r3, r4, r5]
  rfl

theorem units_of (h : DataW.trod enc Ybad.prog w base sp held fuel 46 cs = some (.agg [dOne 0, dOne 1, dOne 2, dOne 3, dOne 4, dOne 5, dOne 6], p)) : cs = uCells.toList := by
  obtain ⟨xs, n, rfl, hx, hl, hxl, hf⟩ := DataW.trod_array Ybad.underlying46 h
  rw [cells46] at hl
  have hd := congrArg Prod.fst hx
  simp only [DataW.agg.injEq] at hd
  rcases xs with _ | ⟨x0, _ | ⟨x1, _ | ⟨x2, _ | ⟨x3, _ | ⟨x4, _ | ⟨x5, _ | ⟨x6, _ | ⟨x7, xs⟩⟩⟩⟩⟩⟩⟩⟩ <;> simp at hxl
  simp only [List.map_cons, List.map_nil, List.cons.injEq, and_true] at hd
  obtain ⟨q0, q1, q2, q3, q4, q5, q6⟩ := hd
  rw [cells45] at hf
  have g0 : (cs.drop 0).take 6 = uOne 0 := unit_of 0 (p := x0.2) (by have := hf 0 (by omega); rw [this, q0]; rfl)
  have g1 : (cs.drop 6).take 6 = uOne 1 := unit_of 1 (p := x1.2) (by have := hf 1 (by omega); rw [this, q1]; rfl)
  have g2 : (cs.drop 12).take 6 = uOne 2 := unit_of 2 (p := x2.2) (by have := hf 2 (by omega); rw [this, q2]; rfl)
  have g3 : (cs.drop 18).take 6 = uOne 3 := unit_of 3 (p := x3.2) (by have := hf 3 (by omega); rw [this, q3]; rfl)
  have g4 : (cs.drop 24).take 6 = uOne 4 := unit_of 4 (p := x4.2) (by have := hf 4 (by omega); rw [this, q4]; rfl)
  have g5 : (cs.drop 30).take 6 = uOne 5 := unit_of 5 (p := x5.2) (by have := hf 5 (by omega); rw [this, q5]; rfl)
  have g6 : (cs.drop 36).take 6 = uOne 6 := unit_of 6 (p := x6.2) (by have := hf 6 (by omega); rw [this, q6]; rfl)
  have st : ∀ k, cs.drop k = (cs.drop k).take 6 ++ cs.drop (k + 6) := fun k => by
    have := (List.take_append_drop 6 (cs.drop k)).symm
    rwa [List.drop_drop] at this
  have e : cs = cs.drop 0 := rfl
  rw [e, st 0, st 6, st 12, st 18, st 24, st 30, st 36, g0, g1, g2, g3, g4, g5, g6, List.drop_eq_nil_of_le (by omega)]
  rfl
end

end Go.Proofs.YbulkdobsDoor
