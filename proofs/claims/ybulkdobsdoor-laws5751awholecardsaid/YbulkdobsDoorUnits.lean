/-
  S5751A: wholeUnits, exactLength, negated AT THE SIZES THAT COME.
-/
import Derived.Test.YbulkdobsDoorItoa
namespace Go.Proofs.YbulkdobsDoor
open Go.RowKit

theorem units_day (a b : Int) (w : World) (ha : -1000000000 < a ∧ a < 1000000000) :
    Calls Ybad.prog 18 #[.int .i64 a, .int .i64 b, .int .i64 86400000000000] w fun e w' => e = .returned (.int .i64 a) ∧ w = w' := by
  go_enter Ybad.func18, Ybad.ntmps18
  go_wp2
  go_ret
  exact ⟨by simp, rfl⟩

def subSize (size per : Int) : Prop := (size = 3600000000000 ∧ per = 24) ∨ (size = 60000000000 ∧ per = 1440) ∨ (size = 1000000000 ∧ per = 86400)

theorem units_sub (b size per : Int) (w : World) (hs : subSize size per) (hb : -86400000000000 < b ∧ b < 86400000000000) :
    Calls Ybad.prog 18 #[.int .i64 0, .int .i64 b, .int .i64 size] w fun e w' => e = .returned (.int .i64 (b.tdiv size)) ∧ w = w' := by
  rcases hs with ⟨rfl, rfl⟩ | ⟨rfl, rfl⟩ | ⟨rfl, rfl⟩
  · go_enter Ybad.func18, Ybad.ntmps18
    go_wp2
    go_ret
    exact ⟨by simp, rfl⟩
  · go_enter Ybad.func18, Ybad.ntmps18
    go_wp2
    go_ret
    exact ⟨by simp, rfl⟩
  · go_enter Ybad.func18, Ybad.ntmps18
    go_wp2
    go_ret
    exact ⟨by simp, rfl⟩

theorem exact_day (a : Int) (w : World) (ha : -1000000000 < a ∧ a < 1000000000) :
    Calls Ybad.prog 19 #[.int .i64 a, .int .i64 86400000000000] w fun e w' => e = .returned (.tuple #[.int .i64 a, .int .i64 0]) ∧ w = w' := by
  go_enter Ybad.func19, Ybad.ntmps19
  go_wp2
  go_ret2
  exact ⟨by simp, rfl⟩

theorem exact_sub (a size per : Int) (w : World) (hs : subSize size per) (ha : -per < a ∧ a < per) :
    Calls Ybad.prog 19 #[.int .i64 a, .int .i64 size] w fun e w' => e = .returned (.tuple #[.int .i64 0, .int .i64 (a * size)]) ∧ ∃ k, w.drewN k = w' := by
  have h1 : a.tdiv per = 0 := by
    rcases Int.le_total 0 a with h | h
    · rw [Int.tdiv_eq_ediv_of_nonneg h]
      exact Int.ediv_eq_zero_of_lt h ha.2
    · have h2 : (-a).tdiv per = 0 := by
        rw [Int.tdiv_eq_ediv_of_nonneg (by omega)]
        exact Int.ediv_eq_zero_of_lt (by omega) (by omega)
      rw [Int.neg_tdiv] at h2
      omega
  have h2 : a.tmod per = a := by
    have := Int.mul_tdiv_add_tmod a per
    rw [h1] at this
    omega
  rcases hs with ⟨rfl, rfl⟩ | ⟨rfl, rfl⟩ | ⟨rfl, rfl⟩
  · go_enter Ybad.func19, Ybad.ntmps19
    go_wp2
    go_quiet (fail)
    go_wp2
    go_ret2
    exact ⟨by simp, _, rfl⟩
  · go_enter Ybad.func19, Ybad.ntmps19
    go_wp2
    go_quiet (fail)
    go_wp2
    go_ret2
    exact ⟨by simp, _, rfl⟩
  · go_enter Ybad.func19, Ybad.ntmps19
    go_wp2
    go_quiet (fail)
    go_wp2
    go_ret2
    exact ⟨by simp, _, rfl⟩

theorem negated_any (a b c : Int) (w : World) (ha : -12000000000 < a ∧ a < 12000000000) (hb : -1000000000 < b ∧ b < 1000000000) (hc : -86400000000000 < c ∧ c < 86400000000000) :
    Calls Ybad.prog 17 #[.agg #[.int .i64 a, .int .i64 b, .int .i64 c]] w fun e w' => e = .returned (.agg #[.int .i64 (-a), .int .i64 (-b), .int .i64 (-c)]) ∧ Below w.heap.size w w' := by
  go_enter Ybad.func17, Ybad.ntmps17
  go_wp2
  refine bodyPost_ret (v := .agg #[.int .i64 (-a), .int .i64 (-b), .int .i64 (-c)]) (by simp [results, Ybad.results17, go_sem]) rfl ⟨rfl, ?_⟩
  exact ((Below.refl _ _).alloc (Nat.le_refl _) _).alloc (by simp) _

end Go.Proofs.YbulkdobsDoor
