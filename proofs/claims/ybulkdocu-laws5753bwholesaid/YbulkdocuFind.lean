/-
  S5753B: THE CLOSURES OF chunkFinder.
-/
import Derived.Test.YbulkdocuNames
import Derived.Shelf.SlicesQ.Load
import Derived.Deep.RegionHeld3
import Derived.Deep.MidRow
namespace Go.Proofs.Ybulkdocu
open Go.RowKit Go.Sort
set_option linter.unusedVariables false

set_option maxRecDepth 100000 in
/-- zzs5753bname. -/
theorem nameOf (v : Nat) (hv : v < 256) (w : World) : Calls Yba.prog 9 #[.int .u8 v] w fun e w' => e = .returned (nameV (keyOf v)) ∧ Grew w w' := by
  have e : nameV (keyOf v) = .agg #[.int .u8 ((v : Int) % 6), .int .u8 ((v : Int) / 6 % 2), .int .u8 0, .int .u8 0, .int .u8 0, .int .u8 0, .int .u8 0, .int .u8 0, .int .u8 0, .int .u8 0, .int .u8 0, .int .u8 0, .int .u8 0, .int .u8 0, .int .u8 0, .int .u8 0] := by
    unfold nameV
    rw [nameArr_eq _ (keyOf_lt v), show keyOf v / 2 = v % 6 by unfold keyOf; omega, show keyOf v % 2 = v / 6 % 2 by unfold keyOf; omega]
    simp
  rw [e]
  go_enter Yba.func9, Yba.ntmps9
  go_wp2
  exact bodyPost_ret (v := .agg #[.int .u8 ((v : Int) % 6), .int .u8 ((v : Int) / 6 % 2), .int .u8 0, .int .u8 0, .int .u8 0, .int .u8 0, .int .u8 0, .int .u8 0, .int .u8 0, .int .u8 0, .int .u8 0, .int .u8 0, .int .u8 0, .int .u8 0, .int .u8 0, .int .u8 0]) (by simp [results, Yba.results9, go_sem]) rfl ⟨rfl, (Grew.refl _).alloc _⟩

set_option maxRecDepth 100000 in
/-- cmp.Or of two. -/
theorem orI (b : Nat) (x y : Int) (w : World) (h0 : w.cell? ⟨b, 0, none⟩ = some (.int .i64 x)) (h1 : w.cell? ⟨b, 1, none⟩ = some (.int .i64 y)) :
    Calls Yba.prog 17 #[.slice (some ⟨b, 0, none⟩) 2 2] w fun e w' => e = .returned (.int .i64 (if x = 0 then y else x)) ∧ w' = w := by
  by_cases hx : x = 0
  · subst hx
    by_cases hy : y = 0
    · subst hy
      go_enter Yba.func17, Yba.ntmps17
      go_wp2
      refine wp_loop_rounds 3 ?_
      rw [rounds_succ]
      go_wp2
      rw [rounds_succ]
      go_wp2
      rw [rounds_succ]
      go_wp2
      go_ret
      exact ⟨rfl, rfl⟩
    · have hy' : (y == 0) = false := by simpa using hy
      go_enter Yba.func17, Yba.ntmps17
      go_wp2
      refine wp_loop_rounds 2 ?_
      rw [rounds_succ]
      go_wp2
      rw [rounds_succ]
      go_wp2
      go_ret
      exact ⟨rfl, rfl⟩
  · have hx' : (x == 0) = false := by simpa using hx
    go_enter Yba.func17, Yba.ntmps17
    go_wp2
    refine wp_loop_rounds 1 ?_
    rw [rounds_succ]
    go_wp2
    go_ret
    exact ⟨by simp, rfl⟩

/-- The archive, as the closures read it: the captured variable's box, the struct, the row of names. -/
structure Arch (w : World) (ab an nb n c : Nat) (K : List Nat) : Prop where
  box : w.cell? ⟨ab, 0, none⟩ = some (.pointer (some ⟨an, 0, none⟩))
  names : w.cell? ⟨an, 49, none⟩ = some (.slice (some ⟨nb, 0, none⟩) n c)
  row : ∀ i, i < n → ∀ j v, (nameL (K.getD i 0))[j]? = some v → w.cell? ⟨nb, i * 16 + j, none⟩ = some v
  key : ∀ i, i < n → K.getD i 0 < 12

theorem keep_cell {w w' : World} {a : Addr} {v : Value} (h : w.cell? a = some v) (hb : Below w.heap.size w w') : w'.cell? a = some v := by
  rw [hb.cell (World.block_lt_of_cell? _ _ h)]
  exact h
theorem Arch.kept {w w' : World} {ab an nb n c : Nat} {K : List Nat} (h : Arch w ab an nb n c K) (hb : Below w.heap.size w w') : Arch w' ab an nb n c K :=
  ⟨keep_cell h.box hb, keep_cell h.names hb, fun i hi j v hj => keep_cell (h.row i hi j v hj) hb, h.key⟩
theorem Arch.load {w : World} {ab an nb n c : Nat} {K : List Nat} (h : Arch w ab an nb n c K) {i : Nat} (hi : i < n) : (loadCellsFrom ⟨nb, i * 16, none⟩ 0 16 #[]).run Yba.prog w = .ok (nameArr (K.getD i 0)) w :=
  run_loadCellsFrom_list Yba.prog w _ (nameL (K.getD i 0)) 16 (nameL_length _) (fun j v hj => by rw [add_plain]; exact h.row i hi j v hj)
theorem load_box (w : World) (b k : Nat) (h : ∀ j v, (nameL k)[j]? = some v → w.cell? ⟨b, j, none⟩ = some v) : (loadCellsFrom ⟨b, 0, none⟩ 0 16 #[]).run Yba.prog w = .ok (nameArr k) w :=
  run_loadCellsFrom_list Yba.prog w _ (nameL k) 16 (nameL_length _) (fun j v hj => by rw [add_plain, Nat.zero_add]; exact h j v hj)

end Go.Proofs.Ybulkdocu
