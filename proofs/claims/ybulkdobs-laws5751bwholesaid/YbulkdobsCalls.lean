/-
  S5751B: THE CALLEES BY THEIR CONTRACTS: zzs5751bpow, exactLength.
-/
import Derived.Test.YbulkdobsRows
import Derived.WalkKit
import Derived.BigQuiet
import Derived.Deep.QuietTactic
import Derived.WalkLawsBesides
namespace Go.Proofs.Ybulkdobs.lawS5751BWhole
open Go.RowKit

def pw (b : Int) (k : Nat) : Int := b ^ k
theorem pw_succ (b : Int) (k : Nat) : pw b (k + 1) = pw b k * b := by unfold pw; rw [Int.pow_succ]

theorem pow_any (b : Int) (e : Int) (h0 : 0 ≤ e) (h1 : e ≤ 100) (hB : ∀ k : Nat, (k : Int) ≤ e → -9223372036854775808 ≤ pw b k ∧ pw b k ≤ 9223372036854775807) (w : World) :
    Calls Yba.prog 5 #[.int .i64 b, .int .i64 e] w fun r w' => r = .returned (.int .i64 (pw b e.toNat)) ∧ w = w' := by
  obtain ⟨n, rfl⟩ := Int.eq_ofNat_of_zero_le h0
  have HB : Hid (∀ k : Nat, (k : Int) ≤ (n : Int) → -9223372036854775808 ≤ pw b k ∧ pw b k ≤ 9223372036854775807) := hB
  clear hB
  go_enter Yba.func5, Yba.ntmps5
  go_wp2
  go_loop [5, 6] (fun r i => ∃ k : Nat, k ≤ n ∧ i = .int .i64 k ∧ r = .int .i64 (pw b k)) (fun _ i => n - (intOf i).toNat)
  case atStart => exact ⟨0, Nat.zero_le _, rfl, by simp [pw]⟩
  case round =>
    obtain ⟨k, hk, rfl, rfl⟩ := hrel
    by_cases hlt : k < n
    · go_wp2
      go_round
      case rel => exact ⟨k + 1, by omega, by go_num, by rw [pw_succ]; exact congrArg (Value.int .i64) (IntWalk.wrap64_in _ (by rw [← pw_succ]; exact HB.out (k + 1) (by omega)))⟩
      case measure => simp [intOf]; omega
    · obtain rfl : n = k := by omega
      go_wp2
      go_ret
      exact ⟨rfl, rfl⟩

theorem exact_multi (n kk : Int) (h1 : 1 ≤ kk) (h2 : kk ≤ 106751) (w : World) :
    Calls Yba.prog 4 #[.int .i64 n, .int .i64 (kk * 86400000000000)] w fun r w' => r = .returned (.tuple #[.int .i64 (wrap64 (n * kk)), .int .i64 0]) ∧ w = w' := by
  have hge : 86400000000000 ≤ kk * 86400000000000 := by omega
  have hq : kk * 86400000000000 / 86400000000000 = kk := by omega
  go_enter Yba.func4, Yba.ntmps4
  go_wp2
  go_ret2
  exact ⟨rfl, rfl⟩

theorem exact_part (n size q : Int) (h1 : 1 ≤ size) (h2 : size < 86400000000000) (hq1 : 1 ≤ q) (hq : 86400000000000 / size = q) (w : World) :
    Calls Yba.prog 4 #[.int .i64 n, .int .i64 size] w fun r w' => r = .returned (.tuple #[.int .i64 (wrap64 (n.tdiv q)), .int .i64 (wrap64 (n.tmod q * size))]) ∧ ∃ k, w.drewN k = w' := by
  go_enter Yba.func4, Yba.ntmps4
  go_wp2
  go_quiet (fail)
  go_wp2
  go_ret2
  exact ⟨rfl, _, rfl⟩

theorem exact_day (n s : Int) (hs : s = 86400000000000) (w : World) :
    Calls Yba.prog 4 #[.int .i64 n, .int .i64 s] w fun r w' => r = .returned (.tuple #[.int .i64 (wrap64 n), .int .i64 0]) ∧ w = w' := by
  subst hs
  have h := exact_multi n 1 (by omega) (by omega) w
  rwa [Int.mul_one] at h

end Go.Proofs.Ybulkdobs.lawS5751BWhole
