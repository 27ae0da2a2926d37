/-
  S5751B: THE WALK OF THE LAW.
-/
import Derived.Test.YbulkdobsPlain
import Derived.RowKit3
import Derived.ProofKit
import Derived.OpenShut
namespace Go.Proofs.Ybulkdobs.lawS5751BWhole
open Go.RowKit
set_option linter.unusedVariables false

theorem grown_drewN {w0 w : World} (h : Grown w0 w) (n : Nat) : Grown w0 (w.drewN n) := by
  induction n with
  | zero => exact h
  | succ n ih => exact Grown.drew ih

theorem walk_multi (a0 a2 a3 a4 a5 : Int) (h0 : -9223372036854775808 ≤ a0 ∧ a0 ≤ 9223372036854775807) (h2 : 0 ≤ a2 ∧ a2 ≤ 4294967295) (w : World) :
    Calls Yba.prog 3 #[.int .i64 a0, .bool true, .int .u32 a2, .int .u8 a3, .int .u8 a4, .int .u8 a5] w fun e w' => e = .returned (.bool true) ∧ Grown w w' := by
  have heq := multi_eq a0 (1 + a2 % 106751)
  go_enter Yba.func3, Yba.ntmps3
  go_wp2_with fail
  refine (exact_multi a0 (1 + a2 % 106751) (by omega) (by omega) _).mono ?_
  rintro e w' ⟨rfl, rfl⟩
  go_wp2
  go_ret
  exact ⟨rfl, Grown.refl _⟩

set_option maxHeartbeats 1000000 in
theorem walk_part (a0 a2 a3 a4 a5 p2 p3 p5 q2 q3 q5 d0 n0 : Int) (h0 : -9223372036854775808 ≤ a0 ∧ a0 ≤ 9223372036854775807) (h3 : 0 ≤ a3 ∧ a3 ≤ 255) (h4 : 0 ≤ a4 ∧ a4 ≤ 255) (h5 : 0 ≤ a5 ∧ a5 ≤ 255)
    (c1 : Hid (∀ w, Calls Yba.prog 5 #[.int .i64 2, .int .i64 (a3 % 17)] w fun r w' => r = .returned (.int .i64 p2) ∧ w = w'))
    (c2 : Hid (∀ w, Calls Yba.prog 5 #[.int .i64 3, .int .i64 (a4 % 4)] w fun r w' => r = .returned (.int .i64 p3) ∧ w = w'))
    (c3 : Hid (∀ w, Calls Yba.prog 5 #[.int .i64 5, .int .i64 (a5 % 12)] w fun r w' => r = .returned (.int .i64 p5) ∧ w = w'))
    (c4 : Hid (∀ w, Calls Yba.prog 5 #[.int .i64 2, .int .i64 (16 - a3 % 17)] w fun r w' => r = .returned (.int .i64 q2) ∧ w = w'))
    (c5 : Hid (∀ w, Calls Yba.prog 5 #[.int .i64 3, .int .i64 (3 - a4 % 4)] w fun r w' => r = .returned (.int .i64 q3) ∧ w = w'))
    (c6 : Hid (∀ w, Calls Yba.prog 5 #[.int .i64 5, .int .i64 (11 - a5 % 12)] w fun r w' => r = .returned (.int .i64 q5) ∧ w = w'))
    (c7 : Hid (∀ w, Calls Yba.prog 4 #[.int .i64 a0, .int .i64 (p2 * p3 * p5)] w fun r w' => r = .returned (.tuple #[.int .i64 d0, .int .i64 n0]) ∧ ∃ k, w.drewN k = w'))
    (b1 : 1 ≤ p2 * p3 ∧ p2 * p3 ≤ 86400000000000) (b2 : 1 ≤ p2 * p3 * p5 ∧ p2 * p3 * p5 ≤ 86400000000000) (b3 : 1 ≤ q2 * q3 ∧ q2 * q3 ≤ 86400000000000) (b4 : 1 ≤ q2 * q3 * q5 ∧ q2 * q3 * q5 ≤ 86400000000000)
    (EN : a0 < 0 → (d0 == wrap64 (-wrap64 (IntKind.u64.wrap ((IntKind.u64.wrap (-IntKind.u64.wrap a0)).tdiv (q2 * q3 * q5))))) = true ∧ (n0 == wrap64 (-wrap64 (wrap64 ((IntKind.u64.wrap (-IntKind.u64.wrap a0)).tmod (q2 * q3 * q5)) * (p2 * p3 * p5)))) = true)
    (EP : ¬ a0 < 0 → (d0 == wrap64 (a0 / (q2 * q3 * q5))) = true ∧ (n0 == wrap64 (wrap64 (a0 % (q2 * q3 * q5)) * (p2 * p3 * p5))) = true) (w : World) :
    Calls Yba.prog 3 #[.int .i64 a0, .bool false, .int .u32 a2, .int .u8 a3, .int .u8 a4, .int .u8 a5] w fun e w' => e = .returned (.bool true) ∧ Grown w w' := by
  by_cases hneg : a0 < 0
  case' pos => obtain ⟨e1, e2⟩ := EN hneg
  case' neg => obtain ⟨e1, e2⟩ := EP hneg
  all_goals
    clear EN EP
    go_enter Yba.func3, Yba.ntmps3
    go_wp2_with fail
    refine (c1.out _).mono ?_
    rintro e w' ⟨rfl, rfl⟩
    go_wp2_with fail
    refine (c2.out _).mono ?_
    rintro e w' ⟨rfl, rfl⟩
    go_wp2_with fail
    refine (c3.out _).mono ?_
    rintro e w' ⟨rfl, rfl⟩
    go_wp2_with fail
    refine (c4.out _).mono ?_
    rintro e w' ⟨rfl, rfl⟩
    go_wp2_with fail
    refine (c5.out _).mono ?_
    rintro e w' ⟨rfl, rfl⟩
    go_wp2_with fail
    refine (c6.out _).mono ?_
    rintro e w' ⟨rfl, rfl⟩
    go_wp2_with fail
    refine (c7.out _).mono ?_
    rintro e w' ⟨rfl, nq, rfl⟩
    go_wp2
    go_ret
    exact ⟨rfl, grown_drewN (Grown.refl _) _⟩

theorem walk_parts (a0 a2 a3 a4 a5 : Int) (h0 : -9223372036854775808 ≤ a0 ∧ a0 ≤ 9223372036854775807) (h3 : 0 ≤ a3 ∧ a3 ≤ 255) (h4 : 0 ≤ a4 ∧ a4 ≤ 255) (h5 : 0 ≤ a5 ∧ a5 ≤ 255) (w : World) :
    Calls Yba.prog 3 #[.int .i64 a0, .bool false, .int .u32 a2, .int .u8 a3, .int .u8 a4, .int .u8 a5] w fun e w' => e = .returned (.bool true) ∧ Grown w w' := by
  have x2 := pw2_bd (a3 % 17).toNat (by omega)
  have x3 := pw3_bd (a4 % 4).toNat (by omega)
  have x5 := pw5_bd (a5 % 12).toNat (by omega)
  have y2 := pw2_bd (16 - a3 % 17).toNat (by omega)
  have y3 := pw3_bd (3 - a4 % 4).toNat (by omega)
  have y5 := pw5_bd (11 - a5 % 12).toNat (by omega)
  have hD := day_prod (a3 % 17).toNat (a4 % 4).toNat (a5 % 12).toNat (16 - a3 % 17).toNat (3 - a4 % 4).toNat (11 - a5 % 12).toNat (by omega) (by omega) (by omega)
  have g2 : ∀ e : Int, e ≤ 16 → ∀ k : Nat, (k : Int) ≤ e → -9223372036854775808 ≤ pw 2 k ∧ pw 2 k ≤ 9223372036854775807 := fun e he k hk => by have := pw2_bd k (by omega); omega
  have g3 : ∀ e : Int, e ≤ 3 → ∀ k : Nat, (k : Int) ≤ e → -9223372036854775808 ≤ pw 3 k ∧ pw 3 k ≤ 9223372036854775807 := fun e he k hk => by have := pw3_bd k (by omega); omega
  have g5 : ∀ e : Int, e ≤ 11 → ∀ k : Nat, (k : Int) ≤ e → -9223372036854775808 ≤ pw 5 k ∧ pw 5 k ≤ 9223372036854775807 := fun e he k hk => by have := pw5_bd k (by omega); omega
  have c1 := pow_any 2 (a3 % 17) (by omega) (by omega) (g2 _ (by omega))
  have c2 := pow_any 3 (a4 % 4) (by omega) (by omega) (g3 _ (by omega))
  have c3 := pow_any 5 (a5 % 12) (by omega) (by omega) (g5 _ (by omega))
  have c4 := pow_any 2 (16 - a3 % 17) (by omega) (by omega) (g2 _ (by omega))
  have c5 := pow_any 3 (3 - a4 % 4) (by omega) (by omega) (g3 _ (by omega))
  have c6 := pow_any 5 (11 - a5 % 12) (by omega) (by omega) (g5 _ (by omega))
  generalize pw 2 (a3 % 17).toNat = p2 at *
  generalize pw 3 (a4 % 4).toNat = p3 at *
  generalize pw 5 (a5 % 12).toNat = p5 at *
  generalize pw 2 (16 - a3 % 17).toNat = q2 at *
  generalize pw 3 (3 - a4 % 4).toNat = q3 at *
  generalize pw 5 (11 - a5 % 12).toNat = q5 at *
  have b1 := mul_bd p2 p3 _ _ x2 x3
  have b2 := mul_bd (p2 * p3) p5 _ _ b1 x5
  have b3 := mul_bd q2 q3 _ _ y2 y3
  have b4 := mul_bd (q2 * q3) q5 _ _ b3 y5
  have b1' : 1 ≤ p2 * p3 ∧ p2 * p3 ≤ 86400000000000 := by omega
  have b2' : 1 ≤ p2 * p3 * p5 ∧ p2 * p3 * p5 ≤ 86400000000000 := by omega
  have b3' : 1 ≤ q2 * q3 ∧ q2 * q3 ≤ 86400000000000 := by omega
  have b4' : 1 ≤ q2 * q3 * q5 ∧ q2 * q3 * q5 ≤ 86400000000000 := by omega
  exact walk_part a0 a2 a3 a4 a5 p2 p3 p5 q2 q3 q5 _ _ h0 h3 h4 h5 c1 c2 c3 c4 c5 c6 (exact_any a0 (p2 * p3 * p5) (q2 * q3 * q5) h0 b4'.1 b2'.1 hD) b1' b2' b3' b4'
    (fun hneg => ⟨day_neg a0 _ (p2 * p3 * p5) h0 hneg b4'.1 b2'.1 hD, nan_neg a0 _ _ h0 hneg b4'.1 b4'.2 b2'.1 hD⟩)
    (fun hneg => ⟨day_pos a0 _ (p2 * p3 * p5) h0 hneg b4'.1 b2'.1 hD, nan_pos a0 _ _ h0 hneg b4'.1 b4'.2 b2'.1 hD⟩) w

end Go.Proofs.Ybulkdobs.lawS5751BWhole
