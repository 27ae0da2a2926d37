/-
  S5753B: THE CLOSURE THAT SORTS.
-/
import Derived.Test.YbulkdocuAsk
namespace Go.Proofs.Ybulkdocu
open Go.RowKit Go.Sort
set_option linter.unusedVariables false
set_option linter.unusedSimpArgs false

def cfK (K : List Nat) (i j : Nat) : Int := if cmp3 (K.getD i 0 : Nat) (K.getD j 0 : Nat) = 0 then cmp3 i j else cmp3 (K.getD i 0 : Nat) (K.getD j 0 : Nat)

theorem reads16 {w0 : World} {ab an nb n c : Nat} {K : List Nat} (h : Arch w0 ab an nb n c K) {i j : Nat} (hi : i < n) (hj : j < n) : ∀ W, Grew w0 W →
    W.cell? ⟨ab, 0, none⟩ = some (.pointer (some ⟨an, 0, none⟩)) ∧ W.cell? ⟨an, 49, none⟩ = some (.slice (some ⟨nb, 0, none⟩) n c) ∧
    W.rangeAt nb (i * 16) (nameL (K.getD i 0)) ∧ W.rangeAt nb (j * 16) (nameL (K.getD j 0)) := fun W hg =>
  have hW := h.kept hg.below
  ⟨hW.box, hW.names, hW.range hi, hW.range hj⟩

set_option maxHeartbeats 2000000 in
set_option maxRecDepth 100000 in
/-- chunkFinder$1: what the sort asks. -/
theorem ask16 (ab an nb n c i j : Nat) (K : List Nat) (w : World) (h : Arch w ab an nb n c K) (hi : i < n) (hj : j < n) (hn : n ≤ 4096) :
    Calls Yba.prog 16 #[.int .i64 i, .int .i64 j, .pointer (some ⟨ab, 0, none⟩)] w fun e w' => e = .returned (.int .i64 (cfK K i j)) ∧ Grew w w' := by
  have HK : Hid (∀ W, Grew w W → W.cell? ⟨ab, 0, none⟩ = some (.pointer (some ⟨an, 0, none⟩)) ∧ W.cell? ⟨an, 49, none⟩ = some (.slice (some ⟨nb, 0, none⟩) n c) ∧ W.rangeAt nb (i * 16) (nameL (K.getD i 0)) ∧ W.rangeAt nb (j * 16) (nameL (K.getD j 0))) := reads16 h hi hj
  have hk1 := h.key i hi
  have hk2 := h.key j hj
  have hiz : (i : Int) < (n : Int) := by omega
  have hjz : (j : Int) < (n : Int) := by omega
  unfold cfK
  clear h
  generalize K.getD i 0 = k1 at *
  generalize K.getD j 0 = k2 at *
  have HCOMP : Hid (∀ W, Calls Yba.prog 18 #[.agg (nameL k1).toArray, .agg (nameL k2).toArray] W fun e w' => e = .returned (.int .i64 (cmp3 k1 k2)) ∧ Grew W w') := fun W => compare k1 k2 hk1 hk2 W
  generalize cmp3 (k1 : Nat) (k2 : Nat) = r1 at *
  have HC2 : Hid (∀ W, Calls Yba.prog 19 #[.int .i64 i, .int .i64 j] W fun e w' => e = .returned (.int .i64 (cmp3 i j)) ∧ w' = W) := fun W => cmpI i j W
  generalize cmp3 (i : Int) (j : Int) = r2 at *
  have HOR : Hid (∀ b W, W.cell? ⟨b, 0, none⟩ = some (.int .i64 r1) → W.cell? ⟨b, 1, none⟩ = some (.int .i64 r2) → Calls Yba.prog 17 #[.slice (some ⟨b, 0, none⟩) 2 2] W fun e w' => e = .returned (.int .i64 (if r1 = 0 then r2 else r1)) ∧ w' = W) := fun b W h0 h1 => orI b r1 r2 W h0 h1
  generalize (if r1 = 0 then r2 else r1) = r3 at *
  have hu40 := Yba.underlying40
  have hs1 := size40 k1
  have hs2 := size40 k2
  go_enter Yba.func16, Yba.ntmps16
  go_wp2_with fail
  refine wp_region_held_drew (S := (fun W => W.cell? ⟨ab, 0, none⟩ = some (.pointer (some ⟨an, 0, none⟩)) ∧ W.cell? ⟨an, 49, none⟩ = some (.slice (some ⟨nb, 0, none⟩) n c) ∧ W.rangeAt nb (i * 16) (nameL k1) ∧ W.rangeAt nb (j * 16) (nameL k2))) (by kernel_rfl) ?_ (fun hHeld => ?_)
  · exact HK.out _ ((Grew.refl _).drew)
  refine wpAnyH_take (i := 0) (oi := { dst := some 6, op := Op.load 43 (Operand.tmp 2), type := 43, pos := "read.go:151", after := #[], guard := none }) (v := ?va0) rfl (by kernel_rfl) (by kernel_rfl) (by kernel_rfl) (fun _ _ _ h => h) (Or.inl ⟨by rfl, ?ya0⟩) (by assumption) ?ra0
  case ya0 => intro w hSw; (try dsimp only at hSw); go_simp; (try with_reducible rfl)
  try simp only [Act.put, List.setIfInBounds_toArray, List.set_cons_zero, List.set_cons_succ]
  refine wpAnyH_take (i := 1) (oi := { dst := some 7, op := Op.nilCheck (Operand.tmp 6), type := 0, pos := "read.go:151", after := #[{ on := 0, ground := Ground.data }], guard := none }) (v := ?va1) rfl (by kernel_rfl) (by kernel_rfl) (by kernel_rfl) (fun _ _ _ h => h) (Or.inl ⟨by rfl, ?ya1⟩) (by assumption) ?ra1
  case ya1 => intro w hSw; (try dsimp only at hSw); go_simp; (try with_reducible rfl)
  try simp only [Act.put, List.setIfInBounds_toArray, List.set_cons_zero, List.set_cons_succ]
  refine wpAnyH_take (i := 2) (oi := { dst := some 8, op := Op.fieldAddr 57 (Operand.tmp 7) 6, type := 0, pos := "read.go:151", after := #[{ on := 1, ground := Ground.data }], guard := none }) (v := ?va2) rfl (by kernel_rfl) (by kernel_rfl) (by kernel_rfl) (fun _ _ _ h => h) (Or.inl ⟨by rfl, ?ya2⟩) (by assumption) ?ra2
  case ya2 => intro w hSw; (try dsimp only at hSw); go_simp; (try with_reducible rfl)
  try simp only [Act.put, List.setIfInBounds_toArray, List.set_cons_zero, List.set_cons_succ]
  refine wpAnyH_take (i := 3) (oi := { dst := some 9, op := Op.load 38 (Operand.tmp 8), type := 38, pos := "read.go:151", after := #[{ on := 2, ground := Ground.data }], guard := none }) (v := ?va3) rfl (by kernel_rfl) (by kernel_rfl) (by kernel_rfl) (fun _ _ _ h => h) (Or.inl ⟨by rfl, ?ya3⟩) (by assumption) ?ra3
  case ya3 => intro w hSw; (try dsimp only at hSw); go_simp; (try with_reducible rfl)
  try simp only [Act.put, List.setIfInBounds_toArray, List.set_cons_zero, List.set_cons_succ]
  refine wpAnyH_take (i := 4) (oi := { dst := some 10, op := Op.move (Operand.tmp 0), type := 3, pos := "read.go:151", after := #[], guard := none }) (v := ?va4) rfl (by kernel_rfl) (by kernel_rfl) (by kernel_rfl) (fun _ _ _ h => h) (Or.inl ⟨by rfl, ?ya4⟩) (by assumption) ?ra4
  case ya4 => intro w hSw; (try dsimp only at hSw); go_simp; (try with_reducible rfl)
  try simp only [Act.put, List.setIfInBounds_toArray, List.set_cons_zero, List.set_cons_succ]
  refine wpAnyH_take (i := 5) (oi := { dst := some 11, op := Op.indexAddr 38 (Operand.tmp 9) (Operand.tmp 10), type := 0, pos := "read.go:151", after := #[{ on := 3, ground := Ground.data }, { on := 4, ground := Ground.data }], guard := none }) (v := ?va5) rfl (by kernel_rfl) (by kernel_rfl) (by kernel_rfl) (fun _ _ _ h => h) (Or.inl ⟨by rfl, ?ya5⟩) (by assumption) ?ra5
  case ya5 => intro w hSw; (try dsimp only at hSw); go_simp; (try with_reducible rfl)
  try simp only [Act.put, List.setIfInBounds_toArray, List.set_cons_zero, List.set_cons_succ]
  refine wpAnyH_take (i := 6) (oi := { dst := some 12, op := Op.load 40 (Operand.tmp 11), type := 40, pos := "read.go:151", after := #[{ on := 5, ground := Ground.data }], guard := none }) rfl (by kernel_rfl) (by kernel_rfl) (by kernel_rfl) (fun _ _ _ h => h) (yieldsIf_load_mid (by rfl) _ _ rfl _ _ rfl _ _ (fun w hSw => hSw.2.2.1) hu40 rfl hs1) (by assumption) ?_
  try simp only [Act.put, List.setIfInBounds_toArray, List.set_cons_zero, List.set_cons_succ]
  refine wpAnyH_take (i := 7) (oi := { dst := some 13, op := Op.load 43 (Operand.tmp 2), type := 43, pos := "read.go:151", after := #[], guard := none }) (v := ?va7) rfl (by kernel_rfl) (by kernel_rfl) (by kernel_rfl) (fun _ _ _ h => h) (Or.inl ⟨by rfl, ?ya7⟩) (by assumption) ?ra7
  case ya7 => intro w hSw; (try dsimp only at hSw); go_simp; (try with_reducible rfl)
  try simp only [Act.put, List.setIfInBounds_toArray, List.set_cons_zero, List.set_cons_succ]
  refine wpAnyH_take (i := 8) (oi := { dst := some 14, op := Op.nilCheck (Operand.tmp 13), type := 0, pos := "read.go:151", after := #[{ on := 7, ground := Ground.data }], guard := none }) (v := ?va8) rfl (by kernel_rfl) (by kernel_rfl) (by kernel_rfl) (fun _ _ _ h => h) (Or.inl ⟨by rfl, ?ya8⟩) (by assumption) ?ra8
  case ya8 => intro w hSw; (try dsimp only at hSw); go_simp; (try with_reducible rfl)
  try simp only [Act.put, List.setIfInBounds_toArray, List.set_cons_zero, List.set_cons_succ]
  refine wpAnyH_take (i := 9) (oi := { dst := some 15, op := Op.fieldAddr 57 (Operand.tmp 14) 6, type := 0, pos := "read.go:151", after := #[{ on := 8, ground := Ground.data }], guard := none }) (v := ?va9) rfl (by kernel_rfl) (by kernel_rfl) (by kernel_rfl) (fun _ _ _ h => h) (Or.inl ⟨by rfl, ?ya9⟩) (by assumption) ?ra9
  case ya9 => intro w hSw; (try dsimp only at hSw); go_simp; (try with_reducible rfl)
  try simp only [Act.put, List.setIfInBounds_toArray, List.set_cons_zero, List.set_cons_succ]
  refine wpAnyH_take (i := 10) (oi := { dst := some 16, op := Op.load 38 (Operand.tmp 15), type := 38, pos := "read.go:151", after := #[{ on := 9, ground := Ground.data }], guard := none }) (v := ?va10) rfl (by kernel_rfl) (by kernel_rfl) (by kernel_rfl) (fun _ _ _ h => h) (Or.inl ⟨by rfl, ?ya10⟩) (by assumption) ?ra10
  case ya10 => intro w hSw; (try dsimp only at hSw); go_simp; (try with_reducible rfl)
  try simp only [Act.put, List.setIfInBounds_toArray, List.set_cons_zero, List.set_cons_succ]
  refine wpAnyH_take (i := 11) (oi := { dst := some 17, op := Op.move (Operand.tmp 1), type := 3, pos := "read.go:151", after := #[], guard := none }) (v := ?va11) rfl (by kernel_rfl) (by kernel_rfl) (by kernel_rfl) (fun _ _ _ h => h) (Or.inl ⟨by rfl, ?ya11⟩) (by assumption) ?ra11
  case ya11 => intro w hSw; (try dsimp only at hSw); go_simp; (try with_reducible rfl)
  try simp only [Act.put, List.setIfInBounds_toArray, List.set_cons_zero, List.set_cons_succ]
  refine wpAnyH_take (i := 12) (oi := { dst := some 18, op := Op.indexAddr 38 (Operand.tmp 16) (Operand.tmp 17), type := 0, pos := "read.go:151", after := #[{ on := 10, ground := Ground.data }, { on := 11, ground := Ground.data }], guard := none }) (v := ?va12) rfl (by kernel_rfl) (by kernel_rfl) (by kernel_rfl) (fun _ _ _ h => h) (Or.inl ⟨by rfl, ?ya12⟩) (by assumption) ?ra12
  case ya12 => intro w hSw; (try dsimp only at hSw); go_simp; (try with_reducible rfl)
  try simp only [Act.put, List.setIfInBounds_toArray, List.set_cons_zero, List.set_cons_succ]
  refine wpAnyH_take (i := 13) (oi := { dst := some 19, op := Op.load 40 (Operand.tmp 18), type := 40, pos := "read.go:151", after := #[{ on := 12, ground := Ground.data }], guard := none }) rfl (by kernel_rfl) (by kernel_rfl) (by kernel_rfl) (fun _ _ _ h => h) (yieldsIf_load_mid (by rfl) _ _ rfl _ _ rfl _ _ (fun w hSw => hSw.2.2.2) hu40 rfl hs2) (by assumption) ?_
  try simp only [Act.put, List.setIfInBounds_toArray, List.set_cons_zero, List.set_cons_succ]
  refine wpAnyH_take (i := 15) (oi := { dst := some 21, op := Op.move (Operand.tmp 0), type := 3, pos := "read.go:151", after := #[], guard := none }) (v := ?va15) rfl (by kernel_rfl) (by kernel_rfl) (by kernel_rfl) (fun _ _ _ h => h) (Or.inl ⟨by rfl, ?ya15⟩) (by assumption) ?ra15
  case ya15 => intro w hSw; (try dsimp only at hSw); go_simp; (try with_reducible rfl)
  try simp only [Act.put, List.setIfInBounds_toArray, List.set_cons_zero, List.set_cons_succ]
  refine wpAnyH_take (i := 16) (oi := { dst := some 22, op := Op.move (Operand.tmp 1), type := 3, pos := "read.go:151", after := #[], guard := none }) (v := ?va16) rfl (by kernel_rfl) (by kernel_rfl) (by kernel_rfl) (fun _ _ _ h => h) (Or.inl ⟨by rfl, ?ya16⟩) (by assumption) ?ra16
  case ya16 => intro w hSw; (try dsimp only at hSw); go_simp; (try with_reducible rfl)
  try simp only [Act.put, List.setIfInBounds_toArray, List.set_cons_zero, List.set_cons_succ]
  refine wpAnyH_ready (rs := [14]) (by kernel_rfl) (by simp) ?_
  refine AllReadyH.cons (o := { dst := some 20, op := Op.call { callee := Callee.value (Operand.func 18), args := #[Operand.tmp 12, Operand.tmp 19], argTypes := #[40, 40] }, type := 3, pos := "read.go:151", after := #[{ on := 6, ground := Ground.data }, { on := 13, ground := Ground.data }], guard := none }) rfl (fun K hK => ?_) AllReadyH.nil
  go_simp
  refine (HCOMP.out _).mono ?_
  rintro e w1 ⟨rfl, hg⟩
  have hG1 : Grew w w1 := ((Grew.refl _).drew).trans hg
  clear hg
  refine hK.out _ _ (HK.out _ hG1) (fun hHeld2 => ?_)
  clear hK K hHeld
  try simp only [Act.put, List.setIfInBounds_toArray, List.set_cons_zero, List.set_cons_succ]
  refine wpAnyH_ready (rs := [17]) (by kernel_rfl) (by simp) ?_
  refine AllReadyH.cons (o := { dst := some 23, op := Op.call { callee := Callee.value (Operand.func 19), args := #[Operand.tmp 21, Operand.tmp 22], argTypes := #[3, 3] }, type := 3, pos := "read.go:151", after := #[{ on := 15, ground := Ground.data }, { on := 16, ground := Ground.data }, { on := 14, ground := Ground.chain }], guard := none }) rfl (fun K hK => ?_) AllReadyH.nil
  go_simp
  refine (HC2.out _).mono ?_
  rintro e w2 ⟨rfl, rfl⟩
  refine hK.out _ _ (HK.out _ hG1) (fun hHeld3 => ?_)
  clear hK K hHeld2
  try simp only [Act.put, List.setIfInBounds_toArray, List.set_cons_zero, List.set_cons_succ]
  refine wpAnyH_ready (rs := [18]) (by kernel_rfl) (by simp) ?_
  refine AllReadyH.cons (o := { dst := some 24, op := Op.buildSlice 76 2 #[(0, Operand.tmp 20), (1, Operand.tmp 23)], type := 76, pos := "read.go:151", after := #[{ on := 14, ground := Ground.data }, { on := 17, ground := Ground.data }], guard := none }) rfl (fun K hK => ?_) AllReadyH.nil
  go_simp
  refine hK.out _ _ (HK.out _ (hG1.alloc _)) (fun hHeld4 => ?_)
  clear hK K hHeld3
  try simp only [Act.put, List.setIfInBounds_toArray, List.set_cons_zero, List.set_cons_succ]
  refine wpAnyH_ready (rs := [19]) (by kernel_rfl) (by simp) ?_
  refine AllReadyH.cons (o := { dst := some 25, op := Op.call { callee := Callee.value (Operand.func 17), args := #[Operand.tmp 24], argTypes := #[76] }, type := 3, pos := "read.go:151", after := #[{ on := 18, ground := Ground.data }, { on := 17, ground := Ground.chain }], guard := none }) rfl (fun K hK => ?_) AllReadyH.nil
  go_simp
  refine (HOR.out w2.heap.size _ (by simp) (by simp)).mono ?_
  rintro e w3 ⟨rfl, rfl⟩
  refine hK.out _ _ (HK.out _ (hG1.alloc _)) (fun hHeld5 => ?_)
  clear hK K hHeld4
  try simp only [Act.put, List.setIfInBounds_toArray, List.set_cons_zero, List.set_cons_succ]
  refine wpAnyH_take (i := 20) (oi := { dst := some 5, op := Op.assign (Operand.tmp 25), type := 3, pos := "read.go:151", after := #[{ on := 19, ground := Ground.data }, { on := 19, ground := Ground.chain }, { on := 0, ground := Ground.phase }, { on := 1, ground := Ground.phase }, { on := 2, ground := Ground.phase }, { on := 3, ground := Ground.phase }, { on := 4, ground := Ground.phase }, { on := 5, ground := Ground.phase }, { on := 6, ground := Ground.phase }, { on := 7, ground := Ground.phase }, { on := 8, ground := Ground.phase }, { on := 9, ground := Ground.phase }, { on := 10, ground := Ground.phase }, { on := 11, ground := Ground.phase }, { on := 12, ground := Ground.phase }, { on := 13, ground := Ground.phase }, { on := 14, ground := Ground.phase }, { on := 15, ground := Ground.phase }, { on := 16, ground := Ground.phase }, { on := 17, ground := Ground.phase }, { on := 18, ground := Ground.phase }, { on := 19, ground := Ground.phase }], guard := none }) (v := ?va20) rfl (by kernel_rfl) (by kernel_rfl) (by kernel_rfl) (fun _ _ _ h => h) (Or.inl ⟨by rfl, ?ya20⟩) (by assumption) ?ra20
  case ya20 => intro w hSw; (try dsimp only at hSw); go_simp; (try with_reducible rfl)
  try simp only [Act.put, List.setIfInBounds_toArray, List.set_cons_zero, List.set_cons_succ]
  refine wpAnyH_done (by kernel_rfl) ?_ _
  go_wp2
  go_ret
  exact ⟨rfl, hG1.alloc _⟩

end Go.Proofs.Ybulkdocu
