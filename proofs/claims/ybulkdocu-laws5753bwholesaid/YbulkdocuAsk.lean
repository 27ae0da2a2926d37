/-
  S5753B: THE CLOSURES OF chunkFinder: WHAT THE SORT AND THE SEARCH ASK.
-/
import Derived.Test.YbulkdocuFind
namespace Go.Proofs.Ybulkdocu
open Go.RowKit Go.Sort
set_option linter.unusedVariables false
set_option linter.unusedSimpArgs false

theorem size40 (k : Nat) : (Yba.prog.info? 40).map (·.size) = some (nameL k).length := by
  rw [nameL_length]
  kernel_rfl
theorem Arch.range {w : World} {ab an nb n c : Nat} {K : List Nat} (h : Arch w ab an nb n c K) {i : Nat} (hi : i < n) : w.rangeAt nb (i * 16) (nameL (K.getD i 0)) := h.row i hi
/-- What a closure's region reads, in whatever world behind. -/
theorem reads22 {w0 : World} {ab an nb n c q b2 : Nat} {K : List Nat} (h : Arch w0 ab an nb n c K) {i : Nat} (hi : i < n) (h2 : ∀ j v, (nameL q)[j]? = some v → w0.cell? ⟨b2, j, none⟩ = some v) : ∀ W, Grew w0 W →
    W.cell? ⟨ab, 0, none⟩ = some (.pointer (some ⟨an, 0, none⟩)) ∧ W.cell? ⟨an, 49, none⟩ = some (.slice (some ⟨nb, 0, none⟩) n c) ∧
    W.rangeAt nb (i * 16) (nameL (K.getD i 0)) ∧ W.rangeAt b2 0 (nameL q) := fun W hg =>
  have hW := h.kept hg.below
  ⟨hW.box, hW.names, hW.range hi, fun j v hj => by rw [Nat.zero_add]; exact keep_cell (h2 j v hj) hg.below⟩

set_option maxHeartbeats 1000000 in
set_option maxRecDepth 100000 in
/-- chunkFinder$2$1: what the search asks. -/
theorem ask22 (ab an nb n c i q : Nat) (K : List Nat) (w : World) (h : Arch w ab an nb n c K) (hi : i < n) (hn : n ≤ 4096) (hq : q < 12) :
    Calls Yba.prog 22 #[.int .i64 i, nameV q, .pointer (some ⟨ab, 0, none⟩)] w fun e w' => e = .returned (.int .i64 (cmp3 (K.getD i 0 : Nat) q)) ∧ Grew w w' := by
  have hA : Arch (w.alloc (.cells (nameArr q) 40)) ab an nb n c K := h.kept ((Below.refl _ _).alloc (Nat.le_refl _) _)
  have HK : Hid (∀ W, Grew (w.alloc (.cells (nameArr q) 40)) W → W.cell? ⟨ab, 0, none⟩ = some (.pointer (some ⟨an, 0, none⟩)) ∧ W.cell? ⟨an, 49, none⟩ = some (.slice (some ⟨nb, 0, none⟩) n c) ∧
    W.rangeAt nb (i * 16) (nameL (K.getD i 0)) ∧ W.rangeAt w.heap.size 0 (nameL q)) := reads22 hA hi (box_cells w q)
  have hk := h.key i hi
  have hiz : (i : Int) < (n : Int) := by omega
  have HG : Hid (Grew w (w.alloc (.cells (nameArr q) 40))) := (Grew.refl w).alloc _
  clear hA h
  generalize K.getD i 0 = k1 at *
  have HCOMP : Hid (∀ W, Calls Yba.prog 18 #[.agg (nameL k1).toArray, .agg (nameL q).toArray] W fun e w' => e = .returned (.int .i64 (cmp3 k1 q)) ∧ Grew W w') := fun W => compare k1 q hk hq W
  have hu40 := Yba.underlying40
  have hs1 := size40 k1
  have hs2 := size40 q
  unfold nameV
  go_enter Yba.func22, Yba.ntmps22
  go_wp2_with fail
  generalize w.alloc (.cells (nameArr q) 40) = w0 at *
  refine wp_region_held_drew (S := (fun W => W.cell? ⟨ab, 0, none⟩ = some (.pointer (some ⟨an, 0, none⟩)) ∧ W.cell? ⟨an, 49, none⟩ = some (.slice (some ⟨nb, 0, none⟩) n c) ∧ W.rangeAt nb (i * 16) (nameL k1) ∧ W.rangeAt w.heap.size 0 (nameL q))) (by kernel_rfl) ?_ (fun hHeld => ?_)
  · exact HK.out _ ((Grew.refl _).drew)
  refine wpAnyH_take (i := 0) (v := ?va0) rfl (by kernel_rfl) (by kernel_rfl) (by kernel_rfl) (fun _ _ _ h => h) (Or.inl ⟨by rfl, ?ya0⟩) (by assumption) ?ra0
  case ya0 => intro w hSw; (try dsimp only at hSw); go_simp; (try with_reducible rfl)
  try simp only [Act.put, List.setIfInBounds_toArray, List.set_cons_zero, List.set_cons_succ]
  refine wpAnyH_take (i := 1) (v := ?va1) rfl (by kernel_rfl) (by kernel_rfl) (by kernel_rfl) (fun _ _ _ h => h) (Or.inl ⟨by rfl, ?ya1⟩) (by assumption) ?ra1
  case ya1 => intro w hSw; (try dsimp only at hSw); go_simp; (try with_reducible rfl)
  try simp only [Act.put, List.setIfInBounds_toArray, List.set_cons_zero, List.set_cons_succ]
  refine wpAnyH_take (i := 2) (v := ?va2) rfl (by kernel_rfl) (by kernel_rfl) (by kernel_rfl) (fun _ _ _ h => h) (Or.inl ⟨by rfl, ?ya2⟩) (by assumption) ?ra2
  case ya2 => intro w hSw; (try dsimp only at hSw); go_simp; (try with_reducible rfl)
  try simp only [Act.put, List.setIfInBounds_toArray, List.set_cons_zero, List.set_cons_succ]
  refine wpAnyH_take (i := 3) (v := ?va3) rfl (by kernel_rfl) (by kernel_rfl) (by kernel_rfl) (fun _ _ _ h => h) (Or.inl ⟨by rfl, ?ya3⟩) (by assumption) ?ra3
  case ya3 => intro w hSw; (try dsimp only at hSw); go_simp; (try with_reducible rfl)
  try simp only [Act.put, List.setIfInBounds_toArray, List.set_cons_zero, List.set_cons_succ]
  refine wpAnyH_take (i := 4) (v := ?va4) rfl (by kernel_rfl) (by kernel_rfl) (by kernel_rfl) (fun _ _ _ h => h) (Or.inl ⟨by rfl, ?ya4⟩) (by assumption) ?ra4
  case ya4 => intro w hSw; (try dsimp only at hSw); go_simp; (try with_reducible rfl)
  try simp only [Act.put, List.setIfInBounds_toArray, List.set_cons_zero, List.set_cons_succ]
  refine wpAnyH_take (i := 5) (v := ?va5) rfl (by kernel_rfl) (by kernel_rfl) (by kernel_rfl) (fun _ _ _ h => h) (Or.inl ⟨by rfl, ?ya5⟩) (by assumption) ?ra5
  case ya5 => intro w hSw; (try dsimp only at hSw); go_simp; (try with_reducible rfl)
  try simp only [Act.put, List.setIfInBounds_toArray, List.set_cons_zero, List.set_cons_succ]
  refine wpAnyH_take (i := 6) rfl (by kernel_rfl) (by kernel_rfl) (by kernel_rfl) (fun _ _ _ h => h) (yieldsIf_load_mid (by rfl) _ _ rfl _ _ rfl _ _ (fun w hSw => hSw.2.2.1) hu40 rfl hs1) (by assumption) ?_
  try simp only [Act.put, List.setIfInBounds_toArray, List.set_cons_zero, List.set_cons_succ]
  refine wpAnyH_take (i := 7) rfl (by kernel_rfl) (by kernel_rfl) (by kernel_rfl) (fun _ _ _ h => h) (yieldsIf_load_mid (by rfl) _ _ rfl _ _ rfl _ _ (fun w hSw => hSw.2.2.2) hu40 rfl hs2) (by assumption) ?_
  try simp only [Act.put, List.setIfInBounds_toArray, List.set_cons_zero, List.set_cons_succ]
  refine wpAnyH_ready (rs := [8]) (by kernel_rfl) (by simp) ?_
  refine AllReadyH.cons rfl (fun K hK => ?_) AllReadyH.nil
  go_simp
  refine (HCOMP.out _).mono ?_
  rintro e w' ⟨rfl, hg⟩
  refine hK.out _ _ (HK.out _ (((Grew.refl _).drew).trans hg)) (fun hHeld2 => ?_)
  clear hK K hHeld
  try simp only [Act.put, List.setIfInBounds_toArray, List.set_cons_zero, List.set_cons_succ]
  refine wpAnyH_take (i := 9) (oi := { dst := some 5, op := Op.assign (Operand.tmp 14), type := 3, pos := "read.go:154", after := #[{ on := 8, ground := Ground.data }, { on := 8, ground := Ground.chain }, { on := 0, ground := Ground.phase }, { on := 1, ground := Ground.phase }, { on := 2, ground := Ground.phase }, { on := 3, ground := Ground.phase }, { on := 4, ground := Ground.phase }, { on := 5, ground := Ground.phase }, { on := 6, ground := Ground.phase }, { on := 7, ground := Ground.phase }, { on := 8, ground := Ground.phase }], guard := none }) (v := ?va9) rfl (by kernel_rfl) (by kernel_rfl) (by kernel_rfl) (fun _ _ _ h => h) (Or.inl ⟨by rfl, ?ya9⟩) (by assumption) ?ra9
  case ya9 => intro w hSw; (try dsimp only at hSw); go_simp; (try with_reducible rfl)
  try simp only [Act.put, List.setIfInBounds_toArray, List.set_cons_zero, List.set_cons_succ]
  refine wpAnyH_done (by kernel_rfl) ?_ _
  go_wp2
  go_ret
  exact ⟨rfl, HG.out.trans (((Grew.refl _).drew).trans hg)⟩

end Go.Proofs.Ybulkdocu
