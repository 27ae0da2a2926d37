/-
  S5751B: THE PLAIN LAW: no walk here.
-/
import Derived.Test.YbulkdobsCalls
namespace Go.Proofs.Ybulkdobs.lawS5751BWhole
open Go.RowKit

theorem wrap64_congr {x y : Int} (h : x % 18446744073709551616 = y % 18446744073709551616) : wrap64 x = wrap64 y := by unfold wrap64; omega
theorem wrap64_neg (x : Int) : wrap64 (-wrap64 x) = wrap64 (-x) := by unfold wrap64; omega
theorem wrap64_fit (x : Int) (h : -9223372036854775808 ≤ x ∧ x ≤ 9223372036854775807) : wrap64 x = x := IntWalk.wrap64_in x h
theorem u64_wrap (x : Int) : IntKind.u64.wrap x = x % 18446744073709551616 := by rw [IntKind.wrap_u64]
theorem multi_eq (n k : Int) : (wrap64 (n * k) == wrap64 (IntKind.u64.wrap (IntKind.u64.wrap n * k))) = true := by
  rw [beq_iff_eq]
  refine wrap64_congr ?_
  rw [u64_wrap, u64_wrap, Int.emod_emod, Int.mul_emod, Int.mul_emod (n % 18446744073709551616) k, Int.emod_emod]

/-- A rest times the size is less than a day. -/
theorem rest_lt (r S Q : Int) (h0 : 0 ≤ r) (hr : r < Q) (hS : 1 ≤ S) (hD : S * Q = 86400000000000) : 0 ≤ r * S ∧ r * S < 86400000000000 := by
  refine ⟨Int.mul_nonneg h0 (by omega), ?_⟩
  have := Int.mul_lt_mul_of_pos_right hr (show 0 < S by omega)
  rw [Int.mul_comm Q S, hD] at this
  exact this

/-- What exactLength gives, in one form for both of its ways. -/
def dayQ (n Q : Int) : Int := n.tdiv Q
def nanR (n Q S : Int) : Int := n.tmod Q * S

theorem parts_neg (n Q : Int) (h : n < 0) : n.tdiv Q = -((-n) / Q) ∧ n.tmod Q = -((-n) % Q) := by
  have e : n = -(-n) := by omega
  constructor
  · rw [e, Int.neg_tdiv, Int.tdiv_eq_ediv_of_nonneg (by omega)]; simp
  · rw [e, Int.neg_tmod, Int.tmod_eq_emod_of_nonneg (by omega)]; simp
theorem parts_pos (n Q : Int) (h : ¬ n < 0) : n.tdiv Q = n / Q ∧ n.tmod Q = n % Q :=
  ⟨Int.tdiv_eq_ediv_of_nonneg (by omega), Int.tmod_eq_emod_of_nonneg (by omega)⟩

theorem div_bd (x Q : Int) (h0 : 0 ≤ x) (hQ : 1 ≤ Q) : 0 ≤ x / Q ∧ x / Q ≤ x ∧ 0 ≤ x % Q ∧ x % Q < Q :=
  ⟨Int.ediv_nonneg h0 (by omega), Int.ediv_le_self Q h0, Int.emod_nonneg x (by omega), Int.emod_lt_of_pos x (by omega)⟩

theorem fits (n Q S : Int) (hn : -9223372036854775808 ≤ n ∧ n ≤ 9223372036854775807) (hQ : 1 ≤ Q) (hS : 1 ≤ S) (hD : S * Q = 86400000000000) :
    (-9223372036854775808 ≤ n.tdiv Q ∧ n.tdiv Q ≤ 9223372036854775807) ∧ (-86400000000000 ≤ n.tmod Q * S ∧ n.tmod Q * S ≤ 86400000000000) := by
  by_cases hneg : n < 0
  · obtain ⟨e1, e2⟩ := parts_neg n Q hneg
    obtain ⟨b1, b2, b3, b4⟩ := div_bd (-n) Q (by omega) hQ
    have := rest_lt _ S Q b3 b4 hS hD
    rw [e1, e2, Int.neg_mul]
    omega
  · obtain ⟨e1, e2⟩ := parts_pos n Q hneg
    obtain ⟨b1, b2, b3, b4⟩ := div_bd n Q (by omega) hQ
    have := rest_lt _ S Q b3 b4 hS hD
    rw [e1, e2]
    omega

theorem exact_any (n S Q : Int) (hn : -9223372036854775808 ≤ n ∧ n ≤ 9223372036854775807) (hQ : 1 ≤ Q) (hS : 1 ≤ S) (hD : S * Q = 86400000000000) (w : World) :
    Calls Yba.prog 4 #[.int .i64 n, .int .i64 S] w fun r w' => r = .returned (.tuple #[.int .i64 (dayQ n Q), .int .i64 (nanR n Q S)]) ∧ ∃ k, w.drewN k = w' := by
  obtain ⟨f1, f2⟩ := fits n Q S hn hQ hS hD
  by_cases hday : S = 86400000000000
  · have hq : Q = 1 := by subst hday; omega
    refine (exact_day n S hday w).mono ?_
    rintro e w' ⟨rfl, rfl⟩
    refine ⟨?_, 0, rfl⟩
    have e1 : dayQ n Q = wrap64 n := by rw [wrap64_fit n hn, dayQ, hq, Int.tdiv_one]
    have e2 : nanR n Q S = 0 := by rw [nanR, hq, Int.tmod_one, Int.zero_mul]
    rw [e1, e2]
  · have hle : S ≤ 86400000000000 := by
      have := Int.mul_le_mul_of_nonneg_left hQ (show 0 ≤ S by omega)
      omega
    have hq : 86400000000000 / S = Q := by
      rw [← hD]; exact Int.mul_ediv_cancel_left Q (by omega)
    refine (exact_part n S Q hS (by omega) hQ hq w).mono ?_
    rintro e w' ⟨rfl, k, rfl⟩
    refine ⟨?_, k, rfl⟩
    rw [wrap64_fit _ f1, wrap64_fit (n.tmod Q * S) (by omega)]
    rfl

theorem neg_turn (n : Int) (hn : -9223372036854775808 ≤ n ∧ n ≤ 9223372036854775807) (h : n < 0) : IntKind.u64.wrap (-IntKind.u64.wrap n) = -n := by
  rw [u64_wrap, u64_wrap]; omega

theorem day_neg (n Q S : Int) (hn : -9223372036854775808 ≤ n ∧ n ≤ 9223372036854775807) (h : n < 0) (hQ : 1 ≤ Q) (hS : 1 ≤ S) (hD : S * Q = 86400000000000) :
    (dayQ n Q == wrap64 (-wrap64 (IntKind.u64.wrap ((IntKind.u64.wrap (-IntKind.u64.wrap n)).tdiv Q)))) = true := by
  obtain ⟨f1, _⟩ := fits n Q S hn hQ hS hD
  obtain ⟨e1, _⟩ := parts_neg n Q h
  obtain ⟨b1, b2, b3, b4⟩ := div_bd (-n) Q (by omega) hQ
  rw [beq_iff_eq, neg_turn n hn h, Int.tdiv_eq_ediv_of_nonneg (by omega), u64_wrap, Int.emod_eq_of_lt b1 (by omega), wrap64_neg, ← e1, wrap64_fit _ f1]
  rfl
theorem nan_neg (n Q S : Int) (hn : -9223372036854775808 ≤ n ∧ n ≤ 9223372036854775807) (h : n < 0) (hQ : 1 ≤ Q) (hQ2 : Q ≤ 86400000000000) (hS : 1 ≤ S) (hD : S * Q = 86400000000000) :
    (nanR n Q S == wrap64 (-wrap64 (wrap64 ((IntKind.u64.wrap (-IntKind.u64.wrap n)).tmod Q) * S))) = true := by
  obtain ⟨_, f2⟩ := fits n Q S hn hQ hS hD
  obtain ⟨_, e2⟩ := parts_neg n Q h
  obtain ⟨b1, b2, b3, b4⟩ := div_bd (-n) Q (by omega) hQ
  rw [beq_iff_eq, neg_turn n hn h, Int.tmod_eq_emod_of_nonneg (by omega), wrap64_fit (-n % Q) (by omega), wrap64_neg, ← Int.neg_mul, ← e2, wrap64_fit _ (by omega)]
  rfl
theorem day_pos (n Q S : Int) (hn : -9223372036854775808 ≤ n ∧ n ≤ 9223372036854775807) (h : ¬ n < 0) (hQ : 1 ≤ Q) (hS : 1 ≤ S) (hD : S * Q = 86400000000000) :
    (dayQ n Q == wrap64 (n / Q)) = true := by
  obtain ⟨f1, _⟩ := fits n Q S hn hQ hS hD
  obtain ⟨e1, _⟩ := parts_pos n Q h
  rw [beq_iff_eq, ← e1, wrap64_fit _ f1]
  rfl
theorem nan_pos (n Q S : Int) (hn : -9223372036854775808 ≤ n ∧ n ≤ 9223372036854775807) (h : ¬ n < 0) (hQ : 1 ≤ Q) (hQ2 : Q ≤ 86400000000000) (hS : 1 ≤ S) (hD : S * Q = 86400000000000) :
    (nanR n Q S == wrap64 (wrap64 (n % Q) * S)) = true := by
  obtain ⟨_, f2⟩ := fits n Q S hn hQ hS hD
  obtain ⟨_, e2⟩ := parts_pos n Q h
  obtain ⟨b1, b2, b3, b4⟩ := div_bd n Q (by omega) hQ
  rw [beq_iff_eq, wrap64_fit (n % Q) (by omega), ← e2, wrap64_fit _ (by omega)]
  rfl

/-! ### The powers -/
theorem pw2_bd (k : Nat) (h : k ≤ 16) : 1 ≤ pw 2 k ∧ pw 2 k ≤ 65536 := by
  have : ∀ m : Fin 17, 1 ≤ pw 2 m.val ∧ pw 2 m.val ≤ 65536 := by decide
  exact this ⟨k, by omega⟩
theorem pw3_bd (k : Nat) (h : k ≤ 3) : 1 ≤ pw 3 k ∧ pw 3 k ≤ 27 := by
  have : ∀ m : Fin 4, 1 ≤ pw 3 m.val ∧ pw 3 m.val ≤ 27 := by decide
  exact this ⟨k, by omega⟩
theorem pw5_bd (k : Nat) (h : k ≤ 11) : 1 ≤ pw 5 k ∧ pw 5 k ≤ 48828125 := by
  have : ∀ m : Fin 12, 1 ≤ pw 5 m.val ∧ pw 5 m.val ≤ 48828125 := by decide
  exact this ⟨k, by omega⟩
theorem pw_split (b : Int) (i j : Nat) : pw b i * pw b j = pw b (i + j) := by unfold pw; rw [Int.pow_add]
theorem prod3 (p2 p3 p5 q2 q3 q5 : Int) : p2 * p3 * p5 * (q2 * q3 * q5) = p2 * q2 * (p3 * q3) * (p5 * q5) := by
  simp only [Int.mul_left_comm, Int.mul_comm]
theorem day_prod (i j k i' j' k' : Nat) (h1 : i + i' = 16) (h2 : j + j' = 3) (h3 : k + k' = 11) : pw 2 i * pw 3 j * pw 5 k * (pw 2 i' * pw 3 j' * pw 5 k') = 86400000000000 := by
  rw [prod3, pw_split, pw_split, pw_split, h1, h2, h3]
  decide
theorem mul_bd (a b A B : Int) (ha : 1 ≤ a ∧ a ≤ A) (hb : 1 ≤ b ∧ b ≤ B) : 1 ≤ a * b ∧ a * b ≤ A * B := by
  constructor
  · have := Int.mul_le_mul ha.1 hb.1 (by omega) (by omega)
    simpa using this
  · exact Int.mul_le_mul ha.2 hb.2 (by omega) (by omega)

end Go.Proofs.Ybulkdobs.lawS5751BWhole
