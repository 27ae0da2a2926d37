/-
  S5748C: THE PLAIN PART, MORE: the pairs of the arguments; what the law's own loops gather.
-/
import Derived.Test.YbulkdoacTrim
namespace Go.Proofs.Ybulkdoac.lawS5748CWhole
open Go.RowKit

def usOf (z0 z1 : List Int) (n : Nat) : List (Int × Int) := (List.range n).map fun i => (z0[i]?.getD 0, z1[i]?.getD 0)
theorem usOf_length (z0 z1 : List Int) (n : Nat) : (usOf z0 z1 n).length = n := by simp [usOf]
theorem usOf_get (z0 z1 : List Int) (n k : Nat) (h : k < n) : (usOf z0 z1 n)[k]? = some (z0[k]?.getD 0, z1[k]?.getD 0) := by simp [usOf, h]

/-- The row 'buf' behind k rounds of the first loop. -/
def fillTo (us : List (Int × Int)) (k : Nat) : List (Int × Int) := us.take k ++ List.replicate (us.length - k) (0, 0)
theorem fillTo_zero (us : List (Int × Int)) : fillTo us 0 = List.replicate us.length (0, 0) := by simp [fillTo]
theorem fillTo_all (us : List (Int × Int)) : fillTo us us.length = us := by simp [fillTo]
theorem fillTo_length (us : List (Int × Int)) (k : Nat) (h : k ≤ us.length) : (fillTo us k).length = us.length := by simp [fillTo]; omega
theorem fillTo_step (us : List (Int × Int)) (k : Nat) (x : Int × Int) (h : us[k]? = some x) : (fillTo us k).set k x = fillTo us (k + 1) := by
  obtain ⟨hk, hx⟩ := List.getElem?_eq_some_iff.1 h
  have e : us.length - k = (us.length - (k + 1)) + 1 := by omega
  have hl : (us.take k).length = k := by simp; omega
  unfold fillTo
  rw [e, List.replicate_succ, List.set_append_right _ _ (by omega), hl, Nat.sub_self, List.set_cons_zero, List.take_succ_eq_append_getElem hk, List.append_assoc, hx]
  rfl

/-- The law's own search for the first and the last stamp in use, behind i rounds. -/
def Found (us : List (Int × Int)) (i : Nat) (f l : Int) : Prop :=
  (f = -1 ∧ l = -1 ∧ ∀ j, j < i → us1 us j = 0) ∨
  ∃ a b : Nat, f = a ∧ l = b ∧ a ≤ b ∧ b < i ∧ us1 us a ≠ 0 ∧ us1 us b ≠ 0 ∧ (∀ j, j < a → us1 us j = 0) ∧ ∀ j, b < j → j < i → us1 us j = 0
theorem Found.zero (us : List (Int × Int)) : Found us 0 (-1) (-1) := .inl ⟨rfl, rfl, fun j h => absurd h (Nat.not_lt_zero j)⟩
theorem Found.miss {us : List (Int × Int)} {i : Nat} {f l : Int} (h : Found us i f l) (hz : us1 us i = 0) : Found us (i + 1) f l := by
  have step : ∀ j, j < i + 1 → ¬ j < i → us1 us j = 0 := fun j h1 h2 => by
    obtain rfl : j = i := by omega
    exact hz
  rcases h with ⟨rfl, rfl, h⟩ | ⟨a, b, rfl, rfl, h1, h2, h3, h4, h5, h6⟩
  · exact .inl ⟨rfl, rfl, fun j hj => by
      by_cases e : j < i
      · exact h j e
      · exact step j hj e⟩
  · exact .inr ⟨a, b, rfl, rfl, h1, by omega, h3, h4, h5, fun j hj hj2 => by
      by_cases e : j < i
      · exact h6 j hj e
      · exact step j hj2 e⟩
theorem Found.hit_first {us : List (Int × Int)} {i : Nat} {f l : Int} (h : Found us i f l) (hz : us1 us i ≠ 0) (hf : f < 0) : Found us (i + 1) i i := by
  rcases h with ⟨rfl, rfl, h⟩ | ⟨a, b, rfl, rfl, h1, h2, h3, h4, h5, h6⟩
  · exact .inr ⟨i, i, rfl, rfl, Nat.le_refl _, by omega, hz, hz, h, fun j h1 h2 => by omega⟩
  · omega
theorem Found.hit_more {us : List (Int × Int)} {i : Nat} {f l : Int} (h : Found us i f l) (hz : us1 us i ≠ 0) (hf : ¬ f < 0) : Found us (i + 1) f i := by
  rcases h with ⟨rfl, rfl, h⟩ | ⟨a, b, rfl, rfl, h1, h2, h3, h4, h5, h6⟩
  · omega
  · exact .inr ⟨a, i, rfl, rfl, by omega, by omega, h3, hz, h5, fun j h1 h2 => by omega⟩
/-- What the search has found is the span. -/
theorem Found.span {us : List (Int × Int)} {f l : Int} {lo hi : Nat} (h : Found us us.length f l) (hs : Span us lo hi) :
    (f = -1 ∧ lo = us.length ∧ hi = us.length) ∨ (f = lo ∧ l = (hi : Int) - 1 ∧ lo < hi ∧ hi ≤ us.length) := by
  rcases h with ⟨rfl, rfl, h⟩ | ⟨a, b, rfl, rfl, h1, h2, h3, h4, h5, h6⟩
  · have k : Span us us.length us.length := ⟨h, fun j h1 h2 => absurd h2 (by omega), .inl ⟨rfl, rfl⟩⟩
    obtain ⟨rfl, rfl⟩ := hs.unique k
    exact .inl ⟨rfl, rfl, rfl⟩
  · have k : Span us a (b + 1) := ⟨h5, fun j h1 h2 => h6 j (by omega) h2, .inr ⟨by omega, by omega, h3, by simpa using h4⟩⟩
    obtain ⟨rfl, rfl⟩ := hs.unique k
    exact .inr ⟨rfl, by omega, by omega, by omega⟩
theorem Found.bd {us : List (Int × Int)} {i : Nat} {f l : Int} (h : Found us i f l) : -1 ≤ f ∧ f ≤ i ∧ -1 ≤ l ∧ l ≤ i := by
  rcases h with ⟨rfl, rfl, h⟩ | ⟨a, b, rfl, rfl, h1, h2, h3, h4, h5, h6⟩ <;> omega

/-- What the law wants kept, of the first i of the span. -/
def pickTo (ka : Bool) (us : List (Int × Int)) : Nat → List (Int × Int)
  | 0 => []
  | i + 1 => pickTo ka us i ++ if (ka || decide (0 < us1 us i)) = true then [pr us i] else []
theorem pickTo_hit (ka : Bool) (us : List (Int × Int)) (i : Nat) (h : (ka || decide (0 < us1 us i)) = true) : pickTo ka us (i + 1) = pickTo ka us i ++ [pr us i] := by rw [pickTo, if_pos h]
theorem pickTo_miss (ka : Bool) (us : List (Int × Int)) (i : Nat) (h : (ka || decide (0 < us1 us i)) = false) : pickTo ka us (i + 1) = pickTo ka us i := by rw [pickTo, if_neg (by simp [h])]; simp
theorem pickTo_le (ka : Bool) (us : List (Int × Int)) : ∀ i, (pickTo ka us i).length ≤ i
  | 0 => by simp [pickTo]
  | i + 1 => by have := pickTo_le ka us i; rw [pickTo]; split <;> simp <;> omega
theorem pickTo_all (us : List (Int × Int)) : ∀ i, i ≤ us.length → pickTo true us i = us.take i
  | 0, _ => by simp [pickTo]
  | i + 1, h => by
    rw [pickTo, pickTo_all us i (by omega), if_pos (by simp), List.take_succ_eq_append_getElem (by omega)]
    simp [pr, List.getElem?_eq_getElem (show i < us.length by omega)]
theorem pickTo_keep (us : List (Int × Int)) : ∀ i, pickTo false us i = keepTo us i
  | 0 => by simp [pickTo, keepTo]
  | i + 1 => by rw [pickTo, keepTo, pickTo_keep us i]; simp
theorem pick_res (us : List (Int × Int)) (lo hi : Nat) (live : Int) (h : (seg us lo hi).length = hi - lo) :
    pickTo (decide (((hi - lo : Nat) : Int) ≤ wrap64 (2 * live))) (seg us lo hi) (hi - lo) = resOf us lo hi live := by
  unfold resOf
  by_cases hk : ((hi - lo : Nat) : Int) ≤ wrap64 (2 * live)
  · rw [decide_eq_true hk, if_pos hk, pickTo_all _ _ (by omega), List.take_of_length_le (by omega)]
  · rw [decide_eq_false hk, if_neg hk, pickTo_keep]

end Go.Proofs.Ybulkdoac.lawS5748CWhole
