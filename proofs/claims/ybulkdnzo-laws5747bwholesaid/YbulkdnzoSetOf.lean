/-
  S5747B: THE WALK OF 'setOf', by its contract.
-/
import Derived.Test.YbulkdnzoRows
import Derived.Test.YbulkdnzoSets
import Derived.WalkKit
import Derived.Below
namespace Go.Proofs.Ybulkdnzo.lawS5747BWhole
open Go.RowKit

theorem setOf_any (a : Option Addr) (len cap : Nat) (zs : List Int) (w : World) (hl : len ≤ 1048576) (hu : ∀ j : Nat, 0 ≤ zs[j]?.getD 0 ∧ zs[j]?.getD 0 ≤ 255)
    (hc : ∀ i, i < len → ∃ b off, a = some ⟨b, off, none⟩ ∧ w.cell? ⟨b, off + i, none⟩ = some (.int .u8 (zs.getD i 0))) :
    Calls Yba.prog 5 #[.slice a len cap] w fun e w' => e = .returned (.int .u8 (setTo zs len)) ∧ w = w' := by
  go_enter Yba.func5, Yba.ntmps5
  go_wp2
  go_loop [3, 8] (fun s i => ∃ k : Nat, k ≤ len ∧ i = .int .i64 k ∧ s = .int .u8 (setTo zs k)) (fun _ i => len - (intOf i).toNat)
  case atStart => exact ⟨0, Nat.zero_le _, rfl, rfl⟩
  case round =>
    obtain ⟨k, hk, rfl, rfl⟩ := hrel
    by_cases hlt : k < len
    · obtain ⟨b, off, rfl, hcx⟩ := hc k hlt
      have hsh := sh_eq (zs[k]?.getD 0) (hu k).1
      clear hc
      go_wp2
      go_round
      case rel => exact ⟨k + 1, by omega, by go_num, rfl⟩
      case measure => simp [intOf]; omega
    · obtain rfl : k = len := by omega
      clear hc
      go_wp2
      go_ret
      exact ⟨rfl, rfl⟩

end Go.Proofs.Ybulkdnzo.lawS5747BWhole
