/-
  S5751A: THE LAW's WALK.
-/
import Derived.Test.YbulkdobsDoorPlainA
import Derived.Test.YbulkdobsDoorStringA
import Derived.Test.YbulkdobsDoorModelT1
namespace Go.Proofs.YbulkdobsDoor
open Go.RowKit

set_option maxRecDepth 100000 in
theorem amodel_zero (w : World) : Calls Ybad.prog 7 #[.int .i64 0, .int .i64 0, .int .i64 0] w fun e w' => e = .returned (.string (strOfNums [80, 84, 48, 83])) ∧ Below w.heap.size w w' := by
  go_enter Ybad.func7, Ybad.ntmps7
  go_wp2
  go_ret
  exact ⟨rfl, Below.refl _ _⟩

theorem both (m dd n : Int) (hm : -12000000000 < m ∧ m < 12000000000) (hd : -1000000000 < dd ∧ dd < 1000000000) (hn : -86400000000000 < n ∧ n < 86400000000000) (hsn : (0 ≤ dd ∧ 0 ≤ n) ∨ (dd ≤ 0 ∧ n ≤ 0)) (tt : TypeId) (fr : Nat × Nat) :
    ∃ str : ByteArray, (∀ W : World, W.heap[0]? = some (.cells uCells tt fr) → Lib.TabIs Ybad.prog W powName .u64 Lib.pow10Tab → 2 < W.heap.size → Calls Ybad.prog 6 #[.agg #[.int .i64 m, .int .i64 dd, .int .i64 n]] W fun e w' => e = .returned (.string str) ∧ Below W.heap.size W w') ∧
      (∀ W : World, Calls Ybad.prog 7 #[.int .i64 m, .int .i64 dd, .int .i64 n] W fun e w' => e = .returned (.string str) ∧ Below W.heap.size W w') := by
  by_cases hz : m = 0 ∧ dd = 0 ∧ n = 0
  · obtain ⟨rfl, rfl, rfl⟩ := hz
    exact ⟨_, fun W _ _ _ => string_zero W, fun W => amodel_zero W⟩
  · obtain ⟨lead, hlead⟩ : ∃ lead : Bool, (m ≤ 0 ∧ dd ≤ 0 ∧ n ≤ 0) ↔ lead = true := ⟨decide (m ≤ 0 ∧ dd ≤ 0 ∧ n ≤ 0), by simp⟩
    have P := partsA m dd n lead hm hd hn
    obtain ⟨⟨g1, g2⟩, ⟨g3, g4⟩⟩ := signsA m n
    have hall : lead = true → m.tdiv 12 ≤ 0 ∧ m.tmod 12 ≤ 0 ∧ dd ≤ 0 ∧ n.tdiv 3600000000000 ≤ 0 ∧ (n.tmod 3600000000000).tdiv 60000000000 ≤ 0 ∧ (n.tmod 60000000000).tdiv 1000000000 ≤ 0 ∧ n.tmod 1000000000 ≤ 0 := by
      intro h
      obtain ⟨a1, a2, a3⟩ := hlead.2 h
      have b1 := g1.1 a1
      have b3 := g3.1 a3
      exact ⟨b1.1, b1.2, a2, b3⟩
    have hnone : (m.tdiv 12 > 0 ∨ m.tmod 12 > 0 ∨ dd > 0 ∨ n.tdiv 3600000000000 > 0 ∨ (n.tmod 3600000000000).tdiv 60000000000 > 0 ∨ (n.tmod 60000000000).tdiv 1000000000 > 0 ∨ n.tmod 1000000000 > 0) ↔ lead = false := by
      constructor
      · intro h
        cases lead
        · rfl
        · have := hall rfl
          omega
      · intro h
        have hno : ¬ (m ≤ 0 ∧ dd ≤ 0 ∧ n ≤ 0) := fun q => by have := hlead.1 q; rw [h] at this; cases this
        by_cases a1 : m ≤ 0
        · by_cases a2 : dd ≤ 0
          · have a3 : ¬ n ≤ 0 := fun q => hno ⟨a1, a2, q⟩
            have := mt g3.2 a3
            omega
          · omega
        · have := mt g1.2 a1
          omega
    have hroom := roomA P lead
      (fun h => by
        subst h
        obtain ⟨c1, c2, c3, c4, c5, c6, c7⟩ := hall rfl
        simp only [if_true]
        exact ⟨by omega, by omega, by omega, by omega, by omega, by omega, by omega⟩)
      (by
        cases lead
        · simp only [Bool.false_eq_true, if_false]
          by_cases a1 : 0 ≤ m
          · exact .inl (g2.1 a1)
          · have hno : ¬ (m ≤ 0 ∧ dd ≤ 0 ∧ n ≤ 0) := fun q => by have := hlead.1 q; cases this
            have a2 : 0 ≤ dd ∧ 0 ≤ n := by omega
            exact .inr ⟨a2.1, g4.1 a2.2⟩
        · obtain ⟨c1, c2, c3, c4, c5, c6, c7⟩ := hall rfl
          simp only [if_true]
          exact .inl ⟨by omega, by omega⟩)
    refine ⟨strOfNums (wholeT (m.tdiv 12) (m.tmod 12) dd (n.tdiv 3600000000000) ((n.tmod 3600000000000).tdiv 60000000000) ((n.tmod 60000000000).tdiv 1000000000) (n.tmod 1000000000) lead), fun W h1 h2 h3 => ?_, fun W => ?_⟩
    · have hs := stringA m dd n lead W hm hd hn hz hlead _ _ _ _ _ _ _ _ _ _ _ rfl rfl rfl P _ _ rfl rfl _ rfl hroom.1 hroom.2 tt fr h1 h2 h3
      rw [text_same _ _ _ _ _ _ _ lead hall] at hs
      exact hs
    · have Q := partsA m dd n false hm hd hn
      simp only [Bool.false_eq_true, if_false] at Q
      by_cases q3 : (n.tmod 60000000000).tdiv 1000000000 = 0 ∧ n.tmod 1000000000 = 0
      · exact amodel_none m dd n lead W hz hm hn _ _ _ _ _ _ rfl rfl rfl rfl rfl rfl Q.by_ Q.bmo hd Q.bh Q.bmi Q.bs hnone q3
      · exact amodel_sec m dd n lead W hz hm hn _ _ _ _ _ _ rfl rfl rfl rfl rfl rfl Q.by_ Q.bmo hd Q.bh Q.bmi Q.bs Q.bf hnone q3 Q.sgn

set_option maxRecDepth 100000 in
set_option maxHeartbeats 1000000 in
theorem lawA_walk (a b c : Int) (w : World) (tt : TypeId) (fr : Nat × Nat) (hun : w.heap[0]? = some (.cells uCells tt fr)) (htab : Lib.TabIs Ybad.prog w powName .u64 Lib.pow10Tab) (h2 : 2 < w.heap.size) :
    Calls Ybad.prog 3 #[.int .i64 a, .int .i64 b, .int .i64 c] w fun e w' => e = .returned (.bool true) ∧ Below w.heap.size w w' := by
  have t1 := (tq a 12000000000 (by omega)).2
  have t2 := (tq b 1000000000 (by omega)).2
  have t3 := (tq c 86400000000000 (by omega)).2
  have hbld := build_any a b c _ _ w rfl rfl (by omega)
  generalize a.tmod 12000000000 = m at *
  generalize b.tmod 1000000000 = dd at *
  generalize c.tmod 86400000000000 = n0 at *
  have hm : -12000000000 < m ∧ m < 12000000000 := by omega
  have hd : -1000000000 < dd ∧ dd < 1000000000 := by omega
  have hn : -86400000000000 < (if (dd > 0 ∧ n0 < 0) ∨ (dd < 0 ∧ n0 > 0) then -n0 else n0) ∧ (if (dd > 0 ∧ n0 < 0) ∨ (dd < 0 ∧ n0 > 0) then -n0 else n0) < 86400000000000 := by split <;> omega
  have hsn : (0 ≤ dd ∧ 0 ≤ (if (dd > 0 ∧ n0 < 0) ∨ (dd < 0 ∧ n0 > 0) then -n0 else n0)) ∨ (dd ≤ 0 ∧ (if (dd > 0 ∧ n0 < 0) ∨ (dd < 0 ∧ n0 > 0) then -n0 else n0) ≤ 0) := by split <;> omega
  generalize (if (dd > 0 ∧ n0 < 0) ∨ (dd < 0 ∧ n0 > 0) then -n0 else n0) = n at *
  obtain ⟨str, hS, hM⟩ := both m dd n hm hd hn hsn tt fr
  clear t1 t2 t3 hsn
  have HS : Hid (∀ W : World, W.heap[0]? = some (.cells uCells tt fr) → Lib.TabIs Ybad.prog W powName .u64 Lib.pow10Tab → 2 < W.heap.size → Calls Ybad.prog 6 #[.agg #[.int .i64 m, .int .i64 dd, .int .i64 n]] W fun e w' => e = .returned (.string str) ∧ Below W.heap.size W w') := hS
  have HM : Hid (∀ W : World, Calls Ybad.prog 7 #[.int .i64 m, .int .i64 dd, .int .i64 n] W fun e w' => e = .returned (.string str) ∧ Below W.heap.size W w') := hM
  clear hS hM
  go_enter Ybad.func3, Ybad.ntmps3
  go_wp2_with fail
  refine hbld.mono ?_
  rintro e w1 ⟨rfl, hb1⟩
  have hun1 : w1.heap[0]? = some (.cells uCells tt fr) := (hb1.block 0 (by omega)).trans hun
  have htab1 : Lib.TabIs Ybad.prog w1 powName .u64 Lib.pow10Tab := Lib.tabBelow_of_tabIs htab _ hb1
  have hsz1 := hb1.size
  clear hbld
  go_wp2_with fail
  generalize hw2 : (w1.alloc (Obj.cells #[.int .i64 m, .int .i64 dd, .int .i64 n] 23)).alloc (Obj.cells #[.int .i64 m, .int .i64 dd, .int .i64 n] 23) = w2 at *
  have hA : D3 w2 w1.heap.size m dd n := by
    rw [← hw2]
    exact D3.alloc (heap_alloc_new w1 _) _
  have hB : D3 w2 (w1.heap.size + 1) m dd n := by
    rw [← hw2]
    have h := heap_alloc_new (w1.alloc (Obj.cells #[.int .i64 m, .int .i64 dd, .int .i64 n] 23)) (Obj.cells #[.int .i64 m, .int .i64 dd, .int .i64 n] 23)
    rw [show (w1.alloc (Obj.cells #[.int .i64 m, .int .i64 dd, .int .i64 n] 23)).heap.size = w1.heap.size + 1 by simp] at h
    exact h
  have hb2 : Below w1.heap.size w1 w2 := by rw [← hw2]; exact ((Below.refl _ _).alloc (Nat.le_refl _) _).alloc (by simp) _
  have hB2 : Below w.heap.size w w2 := hb1.trans (hb2.mono hsz1)
  have hun2 : w2.heap[0]? = some (.cells uCells tt fr) := (hB2.block 0 (by omega)).trans hun
  have htab2 : Lib.TabIs Ybad.prog w2 powName .u64 Lib.pow10Tab := Lib.tabBelow_of_tabIs htab _ hB2
  have hsz2 : 2 < w2.heap.size := Nat.lt_of_lt_of_le h2 hB2.size
  have hcS := HS.out w2 hun2 htab2 hsz2
  clear hw2 hun htab hun1 htab1 hun2 htab2 HS hb1 hb2
  refine hcS.mono ?_
  rintro e w3 ⟨rfl, hb3⟩
  have hB3 : Below w.heap.size w w3 := hB2.trans (hb3.mono hB2.size)
  have hA3 := hA.below hb3
  have hC3 := hB.below hb3
  have a0 := hA3.c0; have a1 := hA3.c1; have a2 := hA3.c2
  have b0 := hC3.c0; have b1 := hC3.c1; have b2 := hC3.c2
  clear hcS hb3 hA hB hB2 hsz2
  go_wp2_with fail
  refine (HM.out _).mono ?_
  rintro e w4 ⟨rfl, hb4⟩
  have hB4 : Below w.heap.size w w4 := hB3.trans (hb4.mono hB3.size)
  clear hb4 hA3 hC3 a0 a1 a2 b0 b1 b2
  go_wp2
  go_ret
  exact ⟨rfl, hB4⟩

end Go.Proofs.YbulkdobsDoor
