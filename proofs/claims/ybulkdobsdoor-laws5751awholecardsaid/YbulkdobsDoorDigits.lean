/-
  S5751A, S5751C: appendDigits, appendFraction: THE WALKS.
-/
import Derived.Test.YbulkdobsDoorBytes
import Derived.BigQuiet
import Derived.Deep.QuietTactic
import Derived.WalkLawsBesides
import Derived.WalkSpells
namespace Go.Proofs.YbulkdobsDoor
open Go.RowKit

set_option maxRecDepth 100000 in
theorem digits2 (g n C : Nat) (t : TypeId) (T : List Int) (x : Int) (w : World) (hx0 : 0 ≤ x) (hx : x ≤ 99) (hT : Txt w g t C T) (hn : T.length = n) (hroom : n + 2 ≤ C) :
    Calls Ybad.prog 23 #[.slice (some ⟨g, 0, none⟩) n C, .int .i64 x, .int .i64 2] w fun e w' => e = .returned (.slice (some ⟨g, 0, none⟩) (n + 2) C) ∧ Txt w' g t C (T ++ [48 + x / 10, 48 + x % 10]) ∧ Kept1 g w w' := by
  have HN : Hid (T.length = n) := hn
  clear hn
  go_enter Ybad.func23, Ybad.ntmps23
  go_wp2_with (at_builtin; refine wpList_append_txt rfl _ _ rfl g n C t T [48 + x / 10, 48 + x % 10] rfl (hT.alloc _) HN.out w.heap.size 0 2 2 rfl rfl (new_two w 5 _ _) hroom ?_)
  intro w1 hr1 hk1
  go_wp2
  go_ret
  exact ⟨rfl, hr1, ((Kept1.refl g w).alloc _).trans hk1⟩

set_option maxRecDepth 100000 in
theorem digits1 (g n C : Nat) (t : TypeId) (T : List Int) (x : Int) (w : World) (hx0 : 0 ≤ x) (hx : x ≤ 9) (hT : Txt w g t C T) (hn : T.length = n) (hroom : n + 1 ≤ C) :
    Calls Ybad.prog 23 #[.slice (some ⟨g, 0, none⟩) n C, .int .i64 x, .int .i64 1] w fun e w' => e = .returned (.slice (some ⟨g, 0, none⟩) (n + 1) C) ∧ Txt w' g t C (T ++ [48 + x]) ∧ Kept1 g w w' := by
  have HN : Hid (T.length = n) := hn
  clear hn
  go_enter Ybad.func23, Ybad.ntmps23
  go_wp2_with (at_builtin; refine wpList_append_txt rfl _ _ rfl g n C t T [48 + x] rfl (hT.alloc _) HN.out w.heap.size 0 1 1 rfl rfl (new_one w 5 _) hroom ?_)
  intro w1 hr1 hk1
  go_wp2
  go_ret
  exact ⟨rfl, hr1, ((Kept1.refl g w).alloc _).trans hk1⟩

/-- The nine digits of a fraction as appendFraction writes them. -/
def d9 (x : Int) : List Int := [48 + x / 100000000, 48 + x / 1000000 % 100 / 10, 48 + x / 1000000 % 100 % 10, 48 + x / 10000 % 100 / 10, 48 + x / 10000 % 100 % 10, 48 + x / 100 % 100 / 10, 48 + x / 100 % 100 % 10, 48 + x % 100 / 10, 48 + x % 100 % 10]
theorem d9_length (x : Int) : (d9 x).length = 9 := rfl
/-- How many of the first k are left when the zeros at the end are cut. -/
def cutK (ds : List Int) : Nat → Nat
  | 0 => 0
  | k + 1 => if ds.getD k 0 = 48 then cutK ds k else k + 1
theorem cutK_le (ds : List Int) : ∀ k, cutK ds k ≤ k
  | 0 => Nat.le_refl _
  | k + 1 => by have := cutK_le ds k; rw [cutK]; split <;> omega

theorem frac0 (v : Value) (w : World) : Calls Ybad.prog 21 #[v, .int .i64 0] w fun e w' => e = .returned v ∧ w = w' := by
  go_enter Ybad.func21, Ybad.ntmps21
  go_wp2
  go_ret
  exact ⟨rfl, rfl⟩

theorem cutK_hit (ds : List Int) (k : Nat) (h : ds.getD k 0 = 48) : cutK ds (k + 1) = cutK ds k := by rw [cutK, if_pos h]
theorem cutK_miss (ds : List Int) (k : Nat) (h : ds.getD k 0 ≠ 48) : cutK ds (k + 1) = k + 1 := by rw [cutK, if_neg h]
theorem getD_past (T : List Int) (x : Int) (D : List Int) (n k : Nat) (hn : T.length = n) : (T ++ x :: D).getD (n + 1 + k) 0 = D.getD k 0 := by
  subst hn
  simp [List.getElem?_append_right (show T.length ≤ T.length + 1 + k by omega), show T.length + 1 + k - T.length = k + 1 by omega]
theorem getD_at (T : List Int) (x : Int) (D : List Int) (n : Nat) (hn : T.length = n) : (T ++ x :: D).getD n 0 = x := by
  subst hn
  simp
theorem d9_range (x : Int) (h0 : 0 ≤ x) (h : x ≤ 999999999) : ∀ k, k < 9 → 48 ≤ (d9 x).getD k 0 ∧ (d9 x).getD k 0 ≤ 57 := by
  intro k hk
  have : k = 0 ∨ k = 1 ∨ k = 2 ∨ k = 3 ∨ k = 4 ∨ k = 5 ∨ k = 6 ∨ k = 7 ∨ k = 8 := by omega
  rcases this with rfl | rfl | rfl | rfl | rfl | rfl | rfl | rfl | rfl <;> simp [d9] <;> omega

theorem frac_fin {w : World} {g : Nat} {t : TypeId} {C : Nat} {T ds : List Int} {x : Int} (hds : d9 x = ds) (hT : Txt w g t C (T ++ 46 :: ds)) : Txt w g t C (T ++ 46 :: (d9 x).take (cutK (d9 x) 9)) := by
  rw [hds]
  refine Txt.cut (S := ds.drop (cutK ds 9)) ?_
  rw [List.append_assoc, List.cons_append, List.take_append_drop]
  exact hT
theorem ret_len {g n m C : Nat} (h : n = m) : Ending.returned (.slice (some ⟨g, 0, none⟩) n C) = .returned (.slice (some ⟨g, 0, none⟩) m C) := by rw [h]

set_option maxRecDepth 100000 in
set_option maxHeartbeats 1000000 in
theorem frac9 (g n C : Nat) (t : TypeId) (T : List Int) (x : Int) (w : World) (hx0 : 0 < x) (hx : x ≤ 999999999) (hT : Txt w g t C T) (hn : T.length = n) (hroom : n + 10 ≤ C) (hCm : C ≤ 1000) :
    Calls Ybad.prog 21 #[.slice (some ⟨g, 0, none⟩) n C, .int .i64 x] w fun e w' => e = .returned (.slice (some ⟨g, 0, none⟩) (n + 1 + cutK (d9 x) 9) C) ∧ Txt w' g t C (T ++ 46 :: (d9 x).take (cutK (d9 x) 9)) ∧ Kept1 g w w' := by
  have HN : Hid (T.length = n) := hn
  have hnz : (x == 0) = false := by simp; omega
  clear hn
  go_enter Ybad.func21, Ybad.ntmps21
  go_wp2_with (at_builtin; refine wpList_append_txt rfl _ _ rfl g n C t T [46] rfl (hT.alloc _) HN.out w.heap.size 0 1 1 rfl rfl (new_one w 5 _) (by omega) ?_)
  intro w1 hr1 hk1
  have hK1 := ((Kept1.refl g w).alloc (.cells #[.int .u8 46] 5)).trans hk1
  clear hk1 hT
  go_wp2_with fail
  refine (digits1 g (n + 1) C t _ (x / 100000000) _ (by omega) (by omega) hr1 (by simp [HN.out]) (by omega)).mono ?_
  rintro e w2 ⟨rfl, hr2, hk2⟩
  have hK2 := hK1.trans hk2
  clear hK1 hk2 hr1
  go_wp2_with fail
  refine (digits2 g _ C t _ (x / 1000000 % 100) _ (by omega) (by omega) hr2 (by simp [HN.out]) (by omega)).mono ?_
  rintro e w3 ⟨rfl, hr3, hk3⟩
  have hK3 := hK2.trans hk3
  clear hK2 hk3 hr2
  go_wp2_with fail
  refine (digits2 g _ C t _ (x / 10000 % 100) _ (by omega) (by omega) hr3 (by simp [HN.out]) (by omega)).mono ?_
  rintro e w4 ⟨rfl, hr4, hk4⟩
  have hK4 := hK3.trans hk4
  clear hK3 hk4 hr3
  go_wp2_with fail
  refine (digits2 g _ C t _ (x / 100 % 100) _ (by omega) (by omega) hr4 (by simp [HN.out]) (by omega)).mono ?_
  rintro e w5 ⟨rfl, hr5, hk5⟩
  have hK5 := hK4.trans hk5
  clear hK4 hk5 hr4
  go_wp2_with fail
  refine (digits2 g _ C t _ (x % 100) _ (by omega) (by omega) hr5 (by simp [HN.out]) (by omega)).mono ?_
  rintro e w6 ⟨rfl, hr6, hk6⟩
  have hK6 := hK5.trans hk6
  clear hK5 hk6 hr5
  have hr : Txt w6 g t C (T ++ 46 :: d9 x) := by simpa [d9] using hr6
  have hrange := d9_range x (by omega) hx
  clear hr6
  have HR := hr
  generalize hds : d9 x = ds at *
  have HL : Hid (ds.length = 9) := by rw [← hds]; rfl
  have HDS : Hid (d9 x = ds) := hds
  clear hds
  have hat : ∀ i, i < n + 10 → w6.cell? ⟨g, i, none⟩ = some (.int .u8 ((T ++ 46 :: ds).getD i 0)) := fun i hi => hr.cell i (by simp [HN.out, HL.out]; omega)
  clear hr
  go_wp2
  go_loop [0] (fun b => ∃ k : Nat, k ≤ 9 ∧ cutK ds k = cutK ds 9 ∧ b = .slice (some ⟨g, 0, none⟩) (n + 1 + k) C) (fun b => match b with | .slice _ l _ => l | _ => 0)
  case atStart => exact ⟨9, Nat.le_refl _, rfl, rfl⟩
  case round =>
    obtain ⟨k, hk, hcut, rfl⟩ := hrel
    have HC : Hid (cutK ds k = cutK ds 9) := hcut
    clear hcut
    have hx1 := hat (n + k) (by omega)
    rcases k with _ | k
    · rw [Nat.add_zero, getD_at T 46 ds n HN.out] at hx1
      clear hat hrange
      go_wp2
      go_ret
      exact ⟨ret_len (by rw [HDS.out, ← HC.out]; rfl), frac_fin HDS.out HR, hK6⟩
    · rw [show n + (k + 1) = n + 1 + k by omega, getD_past T 46 ds n k HN.out] at hx1
      have hrk := hrange k (by omega)
      clear hat hrange
      generalize hd : ds.getD k 0 = dk at *
      have HD : Hid (ds.getD k 0 = dk) := hd
      clear hd
      by_cases h48 : dk = 48
      · have hb : (dk == 48) = true := by simp [h48]
        have HC' : Hid (cutK ds k = cutK ds 9) := by rw [← HC.out]; exact (cutK_hit ds k (by rw [HD.out, h48])).symm
        clear h48
        go_wp2
        go_round
        case rel => exact ⟨k, by omega, HC'.out, rfl⟩
        case measure => simp
      · have hb : (dk == 48) = false := by simp [h48]
        have HC' : Hid (cutK ds 9 = k + 1) := by rw [← HC.out]; exact cutK_miss ds k (by rw [HD.out]; exact h48)
        clear h48
        go_wp2
        go_ret
        exact ⟨ret_len (by rw [HDS.out, HC'.out]), frac_fin HDS.out HR, hK6⟩

end Go.Proofs.YbulkdobsDoor
