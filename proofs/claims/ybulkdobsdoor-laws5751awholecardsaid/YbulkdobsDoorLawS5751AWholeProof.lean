/-
  S5751A: THE ROW OVER THE WALK (after the guide's MapyProofs.lean, DeepKvProofs.lean), AND THE TIED CARD (after MapyCard.lean).
-/
import Derived.Test.YbulkdobsDoorRows
import Derived.Test.YbulkdobsDoorTie
import Derived.Test.YbulkdobsDoorCards
import Derived.Test.YbulkdobsDoorLawA
import Derived.Test.YbulkdobsDoorLaidA
import Derived.ProofKit
import Derived.LaidMore
import Derived.OpenShut
import Derived.ChangeOld
import Derived.ChangeVars
import Derived.Lib.LaidTab
import Derived.Stop.Joined
import Derived.SevenTiedAt
import Derived.Stop.LaidErr
namespace Go.Proofs.YbulkdobsDoor.lawS5751AWhole
open Go.ChangeShapes Go.WideShapes Go.ChangeAt Go.RowKit
set_option linter.unusedVariables false

theorem own : ownKnob Ybad.prog.godebug = none := by kernel_rfl
theorem laidOut : laidOutB Ybad.prog = true := by kernel_rfl
def duName : String := Rows.lawS5751AWholeRow.named.headD ""
theorem gDu : Ybad.prog.globalNamed duName = some 0 := by kernel_rfl
theorem tDu : (Ybad.prog.globals[0]?).map (·.type) = some 46 := by kernel_rfl
theorem tPow : (Ybad.prog.globals[2]?).map (·.type) = some 70 := by kernel_rfl
theorem cellsU64 : Ybad.prog.cellsOf 28 = 1 := by kernel_rfl
theorem cellsPow : Ybad.prog.cellsOf 70 = 20 := by kernel_rfl

theorem var_below {P : Program} {w w' : World} {n : String} {g B : Nat} {cs : Array Value} (h : w.var? P n = some cs) (hg : P.globalNamed n = some g) (hb : Below B w w') (hlt : g < B) : w'.var? P n = some cs := by
  unfold World.var? at h ⊢
  rw [hg] at h ⊢
  simp only [Option.bind_some] at h ⊢
  rw [hb.block g hlt]
  exact h

theorem door_met (os : Os) (args : Array Value) : laidMetH Ybad.prog Rows.lawS5751AWholeRow.laid ((World.doorLaid Ybad.prog 468 os).forCall (fun _ _ => 0) ⟨#[], args, []⟩).memory :=
  laidMetH_of_parts3 (fuel := 8) (laidMet_of_run' 8 (by kernel_rfl) (by kernel_rfl)) (by kernel_rfl) (by kernel_rfl)

theorem of_laid {W : World} (h : laidMetH Ybad.prog Rows.lawS5751AWholeRow.laid W) : Lib.TabIs Ybad.prog W powName .u64 Lib.pow10Tab ∧ W.var? Ybad.prog duName = some uCells := by
  rw [MakeChecks.laidMetH_plain _ _ _ (by kernel_rfl)] at h
  have h1 := laidMet.tail h
  have h2 := laidMet.tail h1
  have h3 := laidMet.tail h2
  have h2' : laidMet Ybad.prog ((powName, Lib.tabData .u64 Lib.pow10Tab) :: [(duName, .agg [dOne 0, dOne 1, dOne 2, dOne 3, dOne 4, dOne 5, dOne 6])]) W := h2
  have h3' : laidMet Ybad.prog ((duName, .agg [dOne 0, dOne 1, dOne 2, dOne 3, dOne 4, dOne 5, dOne 6]) :: []) W := h3
  refine ⟨Lib.tabIs_of_head gPow tPow Ybad.underlying70 Ybad.underlying28 cellsU64 cellsPow h2', ?_⟩
  obtain ⟨ps, ⟨g', t', cs, fuel, p, q, hg', ht', hvar, hd, _, _⟩, _⟩ := h3'
  obtain rfl := Option.some.inj (gDu.symm.trans hg')
  obtain rfl := Option.some.inj (tDu.symm.trans ht')
  rw [hvar]
  exact congrArg some (Array.ext' (units_of hd))

set_option maxRecDepth 100000 in
theorem lifted (os : Os) (started : os.Started) (H : Type) (enc : TypeId × Value → H) :
    ReturnsInHanded {} Ybad.checked os 3 .any (fun w args => (Rows.lawS5751AWholeSpec.pre enc Ybad.prog Ybad.f3 [] false w args ∧ laidMetH Ybad.prog Rows.lawS5751AWholeRow.laid w) ∧ sizedMet enc Ybad.prog Ybad.f3 (OpenSpec.ofChange Rows.lawS5751AWholeSpec) false w args)
      (Rows.lawS5751AWholeSpec.post enc Ybad.prog Ybad.f3 false true false false) := by
  refine returnsInHanded_of_change_and (C := Ybad.checked) (X := fun w _ => laidMetH Ybad.prog Rows.lawS5751AWholeRow.laid w) (fun _ _ _ hh h => h.of_heap hh) own started (by kernel_rfl) Ybad.func3
    (ChangeSpec.witness_shaped (enc := enc) (C := Ybad.checked) (os := os) (X := fun w _ => laidMetH Ybad.prog Rows.lawS5751AWholeRow.laid w) false (World.doorLaid Ybad.prog 468 os) #[.int .i64 0, .int .i64 0, .int .i64 0] 8 rfl (World.shaped_of_RefB (by kernel_rfl) (by kernel_rfl)) (by kernel_rfl) (by kernel_rfl) (by kernel_rfl) (door_met os _)) ?_
  intro W base args ds gs before hval0 hW _ _ hL _
  have hval : ∀ (j : Nat) t v, Ybad.f3.params[j]? = some t → args[j]? = some v → Value.okWide Ybad.prog W .any base t v := hval0
  have hW' := hW
  obtain ⟨p, q, hA0, hV0, rfl, hfz, hnd⟩ := hW
  have hA : DataW.TrodAll enc Ybad.prog W 0 (fun _ => true) true Ybad.f3.params.toList args.toList ds p := hA0
  have hV : DataW.TrodVars enc Ybad.prog W (fun _ => true) [duName] gs q := hV0
  rw [Ybad.params3] at hA hval
  obtain ⟨v0, v1, v2, d0, d1, d2, p0, p1, p2, rfl, rfl, rfl, h0, h1, h2⟩ := trodAll_three hA
  obtain ⟨a, rfl, rfl, rfl, wa⟩ := open_int Ybad.underlying2 (hval 0 2 v0 rfl rfl) h0
  obtain ⟨b, rfl, rfl, rfl, wb⟩ := open_int Ybad.underlying2 (hval 1 2 v1 rfl rfl) h1
  obtain ⟨c, rfl, rfl, rfl, wc⟩ := open_int Ybad.underlying2 (hval 2 2 v2 rfl rfl) h2
  obtain ⟨htab, hdu⟩ := of_laid hL
  obtain ⟨g, t, cs, fuel, d, p', rfl, hg, ht, hvar, hd, rfl⟩ := trodVars_one hV
  obtain rfl := Option.some.inj (gDu.symm.trans hg)
  obtain rfl := Option.some.inj (tDu.symm.trans ht)
  obtain rfl : uCells = cs := Option.some.inj (Eq.trans (Eq.symm hdu) hvar)
  have k0 : DataW.Trod enc Ybad.prog W 0 (fun _ => true) true 46 (.agg uCells) d p' := ⟨fuel, hd⟩
  have lt0 : ∀ x ∈ p', x.block < W.heap.size := DataW.trod_lt fuel _ _ _ hd
  obtain ⟨tt, fr, hblk⟩ : ∃ tt fr, W.heap[0]? = some (.cells uCells tt fr) := by
    unfold World.var? at hdu
    rw [gDu] at hdu
    simp only [Option.bind_some] at hdu
    split at hdu
    · rename_i cs' tt fr e
      obtain rfl := Option.some.inj hdu
      exact ⟨tt, fr, e⟩
    · cases hdu
  have hlt2 : 2 < W.heap.size := by
    have := htab
    unfold Lib.TabIs World.var? at this
    rw [gPow] at this
    simp only [Option.bind_some] at this
    by_cases hlt : 2 < W.heap.size
    · exact hlt
    · rw [Array.getElem?_eq_none (by omega)] at this
      cases this
  clear hA0 hV0 hval0
  refine (lawA_walk a b c W tt fr hblk htab hlt2).mono fun e W' ⟨he, bel⟩ => ?_
  subst he
  obtain ⟨f', hd'⟩ := Below.trod laidOut (by kernel_rfl) (of_decide_eq_true (by kernel_rfl)) k0 bel lt0
  exact ⟨_, rfl, _, _, _, [], _, _, hW', trodAll_mk1 (shut_bool Ybad.underlying4 _), trodAll_mk3 (shut_int Ybad.underlying2 wa) (shut_int Ybad.underlying2 wb) (shut_int Ybad.underlying2 wc), trodVars_mk1 gDu tDu (var_below hvar gDu bel (by omega)) hd', bel.frame _, fun h => by cases h⟩

theorem row_holds : Rows.LawS5751AWholeSaid :=
  OpenClaim.holds_of_wide 3 Ybad.f3 rfl rfl rfl rfl rfl rfl rfl ⟨rfl, rfl, rfl, rfl, rfl⟩ rfl rfl rfl rfl rfl (by kernel_rfl) Ybad.func3 (by kernel_rfl)
    (of_decide_eq_true (by kernel_rfl)) (by unfold Func.isWrapper; first | (rw [if_pos (by decide +kernel)]; kernel_rfl) | (rw [if_neg (by decide +kernel)]; exact ⟨rfl, rfl⟩))
    (fun os started H enc _ => lifted os started H enc)

/-- THE CARD. -/
theorem proved : Rows.LawS5751AWholeCardSaid :=
  Claim7.holds_tied_plain_at .later [] [.data, .data, .data, .widerDeep] true Rows.lawS5751AWholeCard.stood.harness false
    row_holds (fun _ h => by cases h) (by kernel_rfl) (fun _ h => by cases h) lawS5751AWhole_row_tie rfl ⟨rfl, rfl⟩ (by kernel_rfl) rfl
    (fun f fn hf hfn => by
      obtain rfl : f = 3 := Option.some.inj ((show Ybad.prog.funcNamed Rows.lawS5751AWholeRow.func = some 3 by kernel_rfl).symm.trans hf) |>.symm
      obtain rfl : fn = Ybad.f3 := (Option.some.inj (Ybad.func3.symm.trans hfn)).symm
      exact ⟨by kernel_rfl, fun j t ht => by
        rw [Ybad.params3] at ht
        have hm : t ∈ [2, 2, 2] := by simpa using Array.mem_of_getElem? ht
        have hall : ([2, 2, 2].all fun u => !Ybad.prog.wantsStandIn u) = true := by kernel_rfl
        exact (show Ybad.prog.wantsStandIn t = false by simpa using List.all_eq_true.1 hall t hm)⟩)
    (by kernel_rfl)
#print axioms proved
end Go.Proofs.YbulkdobsDoor.lawS5751AWhole
