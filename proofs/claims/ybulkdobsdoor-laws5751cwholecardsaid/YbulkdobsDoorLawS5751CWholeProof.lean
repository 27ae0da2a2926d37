/-
  S5751C: THE ROW OVER THE WALK (after the guide's MapyProofs.lean, DeepKvProofs.lean), AND THE TIED CARD (after MapyCard.lean).
-/
import Derived.Test.YbulkdobsDoorRows
import Derived.Test.YbulkdobsDoorTie
import Derived.Test.YbulkdobsDoorCards
import Derived.Test.YbulkdobsDoorLawC
import Derived.ProofKit
import Derived.LaidMore
import Derived.OpenShut
import Derived.ChangeOld
import Derived.ChangeVars
import Derived.Lib.LaidTab
import Derived.Stop.Joined
import Derived.SevenTiedAt
namespace Go.Proofs.YbulkdobsDoor.lawS5751CWhole
open Go.ChangeShapes Go.WideShapes Go.ChangeAt Go.RowKit
set_option linter.unusedVariables false

theorem own : ownKnob Ybad.prog.godebug = none := by kernel_rfl
theorem laidOut : laidOutB Ybad.prog = true := by kernel_rfl
def msName : String := Rows.lawS5751CWholeRow.named.headD ""
theorem gMs : Ybad.prog.globalNamed msName = some 1 := by kernel_rfl
theorem tMs : (Ybad.prog.globals[1]?).map (·.type) = some 66 := by kernel_rfl
theorem cells3 : Ybad.prog.cellsOf 3 = 1 := by kernel_rfl
theorem cells66 : Ybad.prog.cellsOf 66 = 13 := by kernel_rfl

theorem var_below {P : Program} {w w' : World} {n : String} {g B : Nat} {cs : Array Value} (h : w.var? P n = some cs) (hg : P.globalNamed n = some g) (hb : Below B w w') (hlt : g < B) : w'.var? P n = some cs := by
  unfold World.var? at h ⊢
  rw [hg] at h ⊢
  simp only [Option.bind_some] at h ⊢
  rw [hb.block g hlt]
  exact h

theorem door_met (os : Os) (args : Array Value) : laidMetH Ybad.prog Rows.lawS5751CWholeRow.laid ((World.doorLaid Ybad.prog 468 os).forCall (fun _ _ => 0) ⟨#[], args, []⟩).memory :=
  laidMetH_of_parts3 (fuel := 8) (laidMet_of_run' 8 (by kernel_rfl) (by kernel_rfl)) (by kernel_rfl) (by kernel_rfl)

theorem of_laid {W : World} (h : laidMetH Ybad.prog Rows.lawS5751CWholeRow.laid W) : Lib.TabIs Ybad.prog W msName .i64 Cal.ml := by
  rw [MakeChecks.laidMetH_plain _ _ _ (by kernel_rfl)] at h
  have h' : laidMet Ybad.prog ((msName, Lib.tabData .i64 Cal.ml) :: []) W := h
  exact Lib.tabIs_of_head gMs tMs Ybad.underlying66 Ybad.underlying3 cells3 cells66 h'

set_option maxRecDepth 100000 in
theorem lifted (os : Os) (started : os.Started) (H : Type) (enc : TypeId × Value → H) :
    ReturnsInHanded {} Ybad.checked os 4 .any (fun w args => (Rows.lawS5751CWholeSpec.pre enc Ybad.prog Ybad.f4 [] false w args ∧ laidMetH Ybad.prog Rows.lawS5751CWholeRow.laid w) ∧ sizedMet enc Ybad.prog Ybad.f4 (OpenSpec.ofChange Rows.lawS5751CWholeSpec) false w args)
      (Rows.lawS5751CWholeSpec.post enc Ybad.prog Ybad.f4 false true false false) := by
  refine returnsInHanded_of_change_and (C := Ybad.checked) (X := fun w _ => laidMetH Ybad.prog Rows.lawS5751CWholeRow.laid w) (fun _ _ _ hh h => h.of_heap hh) own started (by kernel_rfl) Ybad.func4
    (ChangeSpec.witness_shaped (enc := enc) (C := Ybad.checked) (os := os) (X := fun w _ => laidMetH Ybad.prog Rows.lawS5751CWholeRow.laid w) false (World.doorLaid Ybad.prog 468 os) #[.int .u64 0, .int .u64 0] 8 rfl (World.shaped_of_RefB (by kernel_rfl) (by kernel_rfl)) (by kernel_rfl) (by kernel_rfl) (by kernel_rfl) (door_met os _)) ?_
  intro W base args ds gs before hval0 hW _ _ hL _
  have hval : ∀ (j : Nat) t v, Ybad.f4.params[j]? = some t → args[j]? = some v → Value.okWide Ybad.prog W .any base t v := hval0
  have hW' := hW
  obtain ⟨p, q, hA0, hV0, rfl, hfz, hnd⟩ := hW
  have hA : DataW.TrodAll enc Ybad.prog W 0 (fun _ => true) true Ybad.f4.params.toList args.toList ds p := hA0
  have hV : DataW.TrodVars enc Ybad.prog W (fun _ => true) [msName] gs q := hV0
  rw [Ybad.params4] at hA hval
  obtain ⟨v0, v1, d0, d1, p0, p1, rfl, rfl, rfl, h0, h1⟩ := trodAll_two hA
  obtain ⟨a, rfl, rfl, rfl, wa⟩ := open_int Ybad.underlying28 (hval 0 28 v0 rfl rfl) h0
  obtain ⟨b, rfl, rfl, rfl, wb⟩ := open_int Ybad.underlying28 (hval 1 28 v1 rfl rfl) h1
  have htab := of_laid hL
  obtain ⟨g, t, cs, fuel, d, p', rfl, hg, ht, hvar, hd, rfl⟩ := trodVars_one hV
  obtain rfl := Option.some.inj (gMs.symm.trans hg)
  obtain rfl := Option.some.inj (tMs.symm.trans ht)
  obtain rfl : (Cal.ml.map fun z => Value.int .i64 z).toArray = cs := Option.some.inj (Eq.trans (Eq.symm htab) hvar)
  have k0 : DataW.Trod enc Ybad.prog W 0 (fun _ => true) true 66 (.agg (Cal.ml.map fun z => Value.int .i64 z).toArray) d p' := ⟨fuel, hd⟩
  have lt0 : ∀ x ∈ p', x.block < W.heap.size := DataW.trod_lt fuel _ _ _ hd
  have hms : ∀ i, i < 13 → W.cell? ⟨1, i, none⟩ = some (.int .i64 (Cal.ml.getD i 0)) := fun i hi => htab.cell gMs i hi
  clear hA0 hV0 hval0
  refine (lawC_walk a b (bounds_u64 wa) (bounds_u64 wb) W hms).mono fun e W' ⟨he, bel⟩ => ?_
  subst he
  obtain ⟨f', hd'⟩ := Below.trod laidOut (by kernel_rfl) (of_decide_eq_true (by kernel_rfl)) k0 bel lt0
  have hlt : 1 < W.heap.size := World.block_lt_of_cell? _ _ (hms 0 (by omega))
  exact ⟨_, rfl, _, _, _, [], _, _, hW', trodAll_mk1 (shut_bool Ybad.underlying4 _), trodAll_mk2 (shut_int Ybad.underlying28 wa) (shut_int Ybad.underlying28 wb), trodVars_mk1 gMs tMs (var_below hvar gMs bel hlt) hd', bel.frame _, fun h => by cases h⟩

theorem row_holds : Rows.LawS5751CWholeSaid :=
  OpenClaim.holds_of_wide 4 Ybad.f4 rfl rfl rfl rfl rfl rfl rfl ⟨rfl, rfl, rfl, rfl, rfl⟩ rfl rfl rfl rfl rfl (by kernel_rfl) Ybad.func4 (by kernel_rfl)
    (of_decide_eq_true (by kernel_rfl)) (by unfold Func.isWrapper; first | (rw [if_pos (by decide +kernel)]; kernel_rfl) | (rw [if_neg (by decide +kernel)]; exact ⟨rfl, rfl⟩))
    (fun os started H enc _ => lifted os started H enc)

/-- THE CARD. -/
theorem proved : Rows.LawS5751CWholeCardSaid :=
  Claim7.holds_tied_plain_at .later [] [.called] true Rows.lawS5751CWholeCard.stood.harness false
    row_holds (fun _ h => by cases h) (by kernel_rfl) (fun _ h => by cases h) lawS5751CWhole_row_tie rfl ⟨rfl, rfl⟩ (by kernel_rfl) rfl
    (fun f fn hf hfn => by
      obtain rfl : f = 4 := Option.some.inj ((show Ybad.prog.funcNamed Rows.lawS5751CWholeRow.func = some 4 by kernel_rfl).symm.trans hf) |>.symm
      obtain rfl : fn = Ybad.f4 := (Option.some.inj (Ybad.func4.symm.trans hfn)).symm
      exact ⟨by kernel_rfl, fun j t ht => by
        rw [Ybad.params4] at ht
        have hm : t ∈ [28, 28] := by simpa using Array.mem_of_getElem? ht
        have hall : ([28, 28].all fun u => !Ybad.prog.wantsStandIn u) = true := by kernel_rfl
        exact (show Ybad.prog.wantsStandIn t = false by simpa using List.all_eq_true.1 hall t hm)⟩)
    (by kernel_rfl)
#print axioms proved
end Go.Proofs.YbulkdobsDoor.lawS5751CWhole
