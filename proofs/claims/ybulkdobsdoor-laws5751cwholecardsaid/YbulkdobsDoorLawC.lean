/-
  S5751C: THE TWO TEXTS ARE ONE; THE WALK OF THE LAW.
-/
import Derived.Test.YbulkdobsDoorString
namespace Go.Proofs.YbulkdobsDoor
open Go.RowKit

theorem dig2 (x : Int) (h0 : 0 ≤ x) (h : x ≤ 99) : dig 2 x = two x := by
  simp [dig, p10, two]
  omega
theorem dig4 (y : Int) (h0 : 0 ≤ y) (h : y ≤ 9999) : dig 4 y = two (y / 100) ++ two (y % 100) := by
  simp [dig, p10, two]
  omega
theorem dig9 (f : Int) (h0 : 0 ≤ f) (h : f ≤ 999999999) : dig 9 f = d9 f := by
  simp [dig, p10, d9]
  omega
theorem texts (y m d nanos : Int) (hy : 0 ≤ y ∧ y ≤ 9999) (hm : 1 ≤ m ∧ m ≤ 12) (hd : 1 ≤ d ∧ d ≤ 31) (h0 : 0 ≤ nanos) (h1 : nanos < 86400000000000) :
    sText y m d nanos = mText y m d (nanos / 1000000000) (nanos % 1000000000) := by
  have e1 : nanos / 1000000000 / 3600 = nanos / 3600000000000 := by omega
  have e2 : nanos / 1000000000 / 60 = nanos / 60000000000 := by omega
  unfold sText mText dText hText fText sFrac
  rw [dig2 m (by omega) (by omega), dig2 d (by omega) (by omega), dig4 y (by omega) (by omega), e1, e2, dig2 (nanos / 3600000000000) (by omega) (by omega), dig2 (nanos / 60000000000 % 60) (by omega) (by omega), dig2 (nanos / 1000000000 % 60) (by omega) (by omega), dig9 (nanos % 1000000000) (by omega) (by omega)]
  simp

set_option maxRecDepth 100000 in
set_option maxHeartbeats 1000000 in
theorem lawC_walk (a b : Int) (ha : 0 ≤ a ∧ a ≤ 18446744073709551615) (hb : 0 ≤ b ∧ b ≤ 18446744073709551615) (w : World) (hms : ∀ i, i < 13 → w.cell? ⟨1, i, none⟩ = some (.int .i64 (Cal.ml.getD i 0))) :
    Calls Ybad.prog 4 #[.int .u64 a, .int .u64 b] w fun e w' => e = .returned (.bool true) ∧ Below w.heap.size w w' := by
  have HMS : Hid (∀ i, i < 13 → w.cell? ⟨1, i, none⟩ = some (.int .i64 (Cal.ml.getD i 0))) := hms
  clear hms
  have hd : 0 ≤ a % 3652425 ∧ a % 3652425 < 3652425 := by omega
  have hn : 0 ≤ b % 86400000000000 ∧ b % 86400000000000 < 86400000000000 := by omega
  go_enter Ybad.func4, Ybad.ntmps4
  go_wp2_with fail
  generalize a % 3652425 = days at *
  generalize b % 86400000000000 = nanos at *
  refine (string_any days nanos _ hd.1 hd.2 hn.1 hn.2 (fun i hi => cell_later ((Below.refl _ _).alloc (Nat.le_refl _) _) (HMS.out i hi))).mono ?_
  rintro e w1 ⟨c, q, o, m, F, rfl, hb1⟩
  have hB1 : Below w.heap.size w w1 := ((Below.refl _ _).alloc (Nat.le_refl _) _).trans (hb1.mono (by simp))
  have hx0 : w1.cell? ⟨w.heap.size, 0, none⟩ = some (.int .i64 days) := cell_later hb1 (by simp)
  have hx1 : w1.cell? ⟨w.heap.size, 1, none⟩ = some (.int .i64 nanos) := cell_later hb1 (by simp)
  have hdd := day_bd days c q o m F
  have hyy := year_bd days c q o m F hd.2
  have cm := model_any days c q o m nanos hd.1 hd.2 F hn.1 hn.2 hyy hdd w1
  rw [texts _ _ _ _ hyy ⟨F.m1, F.m12⟩ hdd hn.1 hn.2]
  generalize strOfNums (mText (400 * c + q) m (o - Cal.dbm q m + 1) (nanos / 1000000000) (nanos % 1000000000)) = str at *
  have CM : Hid (Calls Ybad.prog 9 #[.int .i64 days, .int .i64 nanos] w1 fun r w' => r = .returned (.string str) ∧ Below w1.heap.size w1 w') := cm
  clear cm F hb1 hdd hyy HMS
  go_wp2_with fail
  refine CM.out.mono ?_
  rintro e w2 ⟨rfl, hb2⟩
  have hB2 : Below w.heap.size w w2 := hB1.trans (hb2.mono hB1.size)
  have hy0 := cell_later hb2 hx0
  have hy1 := cell_later hb2 hx1
  clear hx0 hx1 hb2 hB1 CM
  go_wp2
  go_ret
  exact ⟨rfl, hB2⟩

end Go.Proofs.YbulkdobsDoor
