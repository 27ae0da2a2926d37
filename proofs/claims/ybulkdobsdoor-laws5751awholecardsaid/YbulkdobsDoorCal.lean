/-
  S5751C: THE CALENDAR: plain numbers, no Go in sight. The date by a search over years and months is the date by Hinnant's formula.
-/
import Derived.KernelRfl
namespace Go.Proofs.YbulkdobsDoor.Cal

def dby (y : Int) : Int := 365 * y + (y + 3) / 4 - (y + 99) / 100 + (y + 399) / 400
def leapB (y : Int) : Bool := (y % 4 == 0) && ((y % 100 != 0) || (y % 400 == 0))
def ml : List Int := [0, 31, 59, 90, 120, 151, 181, 212, 243, 273, 304, 334, 365]
/-- Days before month m. -/
def mst (m : Int) : Int := ml.getD (m - 1).toNat 0
def dbm (y m : Int) : Int := mst m + if 2 < m ∧ leapB y = true then 1 else 0

/-- The year of the era out of the day of the era. -/
theorem yoe_of (b a r x : Int) (hb : 0 ≤ b ∧ b ≤ 3) (ha : 0 ≤ a ∧ a ≤ 24) (hr : 0 ≤ r ∧ r ≤ 3) (hx : 0 ≤ x ∧ x ≤ 365) (hl : x = 365 → r = 3 ∧ (a = 24 → b = 3)) (doe : Int) (hd : doe = 36524 * b + 1461 * a + 365 * r + x) :
    (doe - doe / 1460 + doe / 36524 - doe / 146096) / 365 = 100 * b + 4 * a + r := by
  by_cases hs : 24 * b + a + 365 * r + x < 1460
  · have e1 : doe / 1460 = 25 * b + a := by omega
    have e2 : doe / 36524 = b := by omega
    have e3 : doe / 146096 = 0 := by omega
    rw [e1, e2, e3]
    omega
  · have e1 : doe / 1460 = 25 * b + a + 1 := by omega
    by_cases hx5 : x = 365 ∧ a = 24
    · have hb3 : b = 3 := by omega
      have hr3 : r = 3 := by omega
      obtain ⟨rfl, rfl⟩ := hx5
      subst hb3 hr3
      have : doe = 146096 := by omega
      subst this
      rfl
    · have e2 : doe / 36524 = b := by omega
      have e3 : doe / 146096 = 0 := by omega
      rw [e1, e2, e3]
      omega

/-- A year of the era in its parts. -/
theorem parts (q : Int) (h : 0 ≤ q ∧ q ≤ 399) : ∃ b a r : Int, (0 ≤ b ∧ b ≤ 3) ∧ (0 ≤ a ∧ a ≤ 24) ∧ (0 ≤ r ∧ r ≤ 3) ∧ q = 100 * b + 4 * a + r :=
  ⟨q / 100, q % 100 / 4, q % 4, by omega, by omega, by omega, by omega⟩

/-- Hinnant's date. -/
def hEra (n : Int) : Int := (n - 60 + 146097) / 146097
def hDoe (n : Int) : Int := n - 60 + 146097 - hEra n * 146097
def hYoe (e : Int) : Int := (e - e / 1460 + e / 36524 - e / 146096) / 365
def hDoy (e : Int) : Int := e - (365 * hYoe e + hYoe e / 4 - hYoe e / 100)
def hMp (o : Int) : Int := (5 * o + 2) / 153

/-- What Hinnant's formula says of the x-th day of the year Y that begins with March: era, year of the era, day of the year. -/
theorem hinnant (n E b a r x : Int) (hb : 0 ≤ b ∧ b ≤ 3) (ha : 0 ≤ a ∧ a ≤ 24) (hr : 0 ≤ r ∧ r ≤ 3) (hx : 0 ≤ x ∧ x ≤ 365) (hl : x = 365 → r = 3 ∧ (a = 24 → b = 3))
    (hn : n - 60 + 146097 = 146097 * E + (36524 * b + 1461 * a + 365 * r + x)) :
    hEra n = E ∧ hYoe (hDoe n) = 100 * b + 4 * a + r ∧ hDoy (hDoe n) = x := by
  have e0 : hEra n = E := by unfold hEra; omega
  have e1 : hDoe n = 36524 * b + 1461 * a + 365 * r + x := by unfold hDoe; rw [e0]; omega
  have e2 : hYoe (hDoe n) = 100 * b + 4 * a + r := yoe_of b a r x hb ha hr hx hl _ e1
  refine ⟨e0, e2, ?_⟩
  unfold hDoy
  rw [e2, e1]
  omega

/-- The date n as the search finds it: the cycle c, the year q of the cycle, the day o of the year, the month m. -/
structure Found (n c q o m : Int) : Prop where
  day : n = 146097 * c + dby q + o
  c0 : 0 ≤ c
  q0 : 0 ≤ q
  q1 : q ≤ 399
  o0 : 0 ≤ o
  o1 : o < dby (q + 1) - dby q
  m1 : 1 ≤ m
  m12 : m ≤ 12
  lo : dbm q m ≤ o
  hi : m = 12 ∨ o < dbm q (m + 1)

theorem leap_parts (b a r : Int) (hb : 0 ≤ b ∧ b ≤ 3) (ha : 0 ≤ a ∧ a ≤ 24) (hr : 0 ≤ r ∧ r ≤ 3) : leapB (100 * b + 4 * a + r) = true ↔ (r = 0 ∧ (a = 0 → b = 0)) := by
  unfold leapB
  simp only [Bool.and_eq_true, Bool.or_eq_true, beq_iff_eq, bne_iff_ne]
  omega
theorem dby_parts (b a r : Int) (hb : 0 ≤ b ∧ b ≤ 3) (ha : 0 ≤ a ∧ a ≤ 24) (hr : 0 ≤ r ∧ r ≤ 3) : dby (100 * b + 4 * a + r) = 36524 * b + 1461 * a + 365 * r + (if r = 0 then 0 else 1) - (if a = 0 ∧ r = 0 then 0 else 1) + (if b = 0 ∧ a = 0 ∧ r = 0 then 0 else 1) := by
  unfold dby
  split <;> split <;> split <;> omega
theorem dby_len (q : Int) (h : 0 ≤ q ∧ q ≤ 399) : dby (q + 1) - dby q = 365 + if leapB q = true then 1 else 0 := by
  obtain ⟨b, a, r, hb, ha, hr, rfl⟩ := parts q h
  have hl := leap_parts b a r hb ha hr
  by_cases h0 : leapB (100 * b + 4 * a + r) = true
  · rw [if_pos h0]
    have := hl.1 h0
    unfold dby
    omega
  · rw [if_neg h0]
    have : ¬ (r = 0 ∧ (a = 0 → b = 0)) := fun k => h0 (hl.2 k)
    unfold dby
    omega

theorem mst_vals : mst 1 = 0 ∧ mst 2 = 31 ∧ mst 3 = 59 ∧ mst 4 = 90 ∧ mst 5 = 120 ∧ mst 6 = 151 ∧ mst 7 = 181 ∧ mst 8 = 212 ∧ mst 9 = 243 ∧ mst 10 = 273 ∧ mst 11 = 304 ∧ mst 12 = 334 ∧ mst 13 = 365 := by decide
theorem twelve (m : Int) (h1 : 1 ≤ m) (h2 : m ≤ 12) : m = 1 ∨ m = 2 ∨ m = 3 ∨ m = 4 ∨ m = 5 ∨ m = 6 ∨ m = 7 ∨ m = 8 ∨ m = 9 ∨ m = 10 ∨ m = 11 ∨ m = 12 := by omega

theorem bounds_late {D o : Int} {l : Bool} (e3 : D = 59 + if l = true then 1 else 0) (hlo : D ≤ o) (h0 : o < 365 + if l = true then 1 else 0) : (0 ≤ o - D ∧ o - D ≤ 365) ∧ o - D ≠ 365 := by
  cases l <;> simp at e3 h0 <;> omega

/-- From March on the year is the search's own. -/
theorem late (n c q o m : Int) (F : Found n c q o m) (h3 : 3 ≤ m) : hEra n = c + 1 ∧ hYoe (hDoe n) = q ∧ hDoy (hDoe n) = o - dbm q 3 := by
  obtain ⟨b, a, r, hb, ha, hr, rfl⟩ := parts q ⟨F.q0, F.q1⟩
  have hl := leap_parts b a r hb ha hr
  have hd := F.day
  have h0 := F.o1
  rw [dby_len _ ⟨F.q0, F.q1⟩] at h0
  have hlo := F.lo
  obtain ⟨v1, v2, v3, v4, v5, v6, v7, v8, v9, v10, v11, v12, v13⟩ := mst_vals
  have hlo3 : dbm (100 * b + 4 * a + r) 3 ≤ o := by
    have e3 : mst 3 ≤ mst m := by
      have h12 := F.m12
      rcases twelve m (by omega) h12 with rfl | rfl | rfl | rfl | rfl | rfl | rfl | rfl | rfl | rfl | rfl | rfl <;> omega
    unfold dbm at hlo ⊢
    by_cases hlp : leapB (100 * b + 4 * a + r) = true
    · rw [if_pos ⟨by omega, hlp⟩] at hlo ⊢; omega
    · rw [if_neg (fun k => hlp k.2)] at hlo ⊢; omega
  have e3 : dbm (100 * b + 4 * a + r) 3 = 59 + if leapB (100 * b + 4 * a + r) = true then 1 else 0 := by
    unfold dbm
    rw [v3]
    by_cases hlp : leapB (100 * b + 4 * a + r) = true
    · rw [if_pos ⟨by omega, hlp⟩, if_pos hlp]
    · rw [if_neg (fun k => hlp k.2), if_neg hlp]
  obtain ⟨h1, h2, h3⟩ := hinnant n (c + 1) b a r (o - dbm (100 * b + 4 * a + r) 3) hb ha hr (bounds_late e3 hlo3 h0).1 (fun k => absurd k (bounds_late e3 hlo3 h0).2) (by
    rw [e3, hd]
    by_cases hlp : leapB (100 * b + 4 * a + r) = true
    · rw [if_pos hlp]
      have := hl.1 hlp
      unfold dby
      omega
    · rw [if_neg hlp]
      have : ¬ (r = 0 ∧ (a = 0 → b = 0)) := fun k => hlp (hl.2 k)
      unfold dby
      omega)
  exact ⟨h1, h2, h3⟩

/-- January and February lie in the year before. -/
theorem early (n c q o m : Int) (F : Found n c q o m) (h3 : m ≤ 2) : hYoe (hDoe n) + hEra n * 400 = 400 * c + q + 399 ∧ hDoy (hDoe n) = o + 306 := by
  have hd := F.day
  have h0 := F.o1
  rw [dby_len _ ⟨F.q0, F.q1⟩] at h0
  obtain ⟨v1, v2, v3, v4, v5, v6, v7, v8, v9, v10, v11, v12, v13⟩ := mst_vals
  have hup : o < 59 + if leapB q = true then 1 else 0 := by
    have hm1 := F.m1
    rcases F.hi with e | e
    · omega
    · have hm : m = 1 ∨ m = 2 := by omega
      unfold dbm at e
      rcases hm with rfl | rfl
      · have e1 : mst (1 + 1) = 31 := v2
        rw [e1, if_neg (by omega)] at e
        split <;> omega
      · have e1 : mst (2 + 1) = 59 := v3
        rw [e1] at e
        by_cases hlp : leapB q = true
        · rw [if_pos ⟨by omega, hlp⟩] at e; rw [if_pos hlp]; omega
        · rw [if_neg (fun k => hlp k.2)] at e; rw [if_neg hlp]; omega
  by_cases hq : q = 0
  · subst hq
    have e0 : dby 0 = 0 := by decide
    have el : leapB 0 = true := by decide
    rw [el, if_pos rfl] at hup
    rw [e0] at hd
    have := F.o0
    obtain ⟨h1, h2, h3⟩ := hinnant n c 3 24 3 (o + 306) (by omega) (by omega) (by omega) (by omega) (fun _ => by omega) (by omega)
    exact ⟨by omega, h3⟩
  · obtain ⟨b, a, r, hb, ha, hr, e⟩ := parts (q - 1) ⟨by have := F.q0; omega, by have := F.q1; omega⟩
    have hq1 : q = 100 * b + 4 * a + r + 1 := by omega
    have hlq : leapB q = true → r = 3 ∧ (a = 24 → b = 3) := by
      intro k
      unfold leapB at k
      simp only [Bool.and_eq_true, Bool.or_eq_true, beq_iff_eq, bne_iff_ne] at k
      have := F.q1
      omega
    have := F.o0
    have h399 := F.q1
    obtain ⟨h1, h2, h3⟩ := hinnant n (c + 1) b a r (o + 306) hb ha hr (by split at hup <;> omega) (fun k => by
      by_cases hlp : leapB q = true
      · exact hlq hlp
      · rw [if_neg hlp] at hup; omega) (by rw [hd, hq1]; unfold dby; omega)
    exact ⟨by omega, h3⟩

/-- THE TWO DATES ARE ONE. -/
theorem same_date (n c q o m : Int) (F : Found n c q o m) :
    hMp (hDoy (hDoe n)) = (if m ≤ 2 then m + 9 else m - 3) ∧ hDoy (hDoe n) - (153 * hMp (hDoy (hDoe n)) + 2) / 5 + 1 = o - dbm q m + 1 ∧
    hYoe (hDoe n) + hEra n * 400 + (if m ≤ 2 then 1 else 0) - 400 = 400 * c + q := by
  obtain ⟨v1, v2, v3, v4, v5, v6, v7, v8, v9, v10, v11, v12, v13⟩ := mst_vals
  have hlo := F.lo
  have hhi := F.hi
  have h0 := F.o1
  rw [dby_len _ ⟨F.q0, F.q1⟩] at h0
  by_cases h2 : m ≤ 2
  · obtain ⟨e1, e2⟩ := early n c q o m F h2
    rw [e2, if_pos h2, if_pos h2]
    have hm1 := F.m1
    have ho := F.o0
    have hm : m = 1 ∨ m = 2 := by omega
    rcases hm with rfl | rfl
    · have hu : dbm q (1 + 1) = 31 := by unfold dbm; rw [show mst (1 + 1) = 31 from v2, if_neg (by omega)]; omega
      have hd : dbm q 1 = 0 := by unfold dbm; rw [v1, if_neg (by omega)]; omega
      rw [hu] at hhi
      have em : hMp (o + 306) = 10 := by unfold hMp; omega
      rw [em, hd]
      omega
    · have hd : dbm q 2 = 31 := by unfold dbm; rw [v2, if_neg (by omega)]; omega
      have hu : o ≤ 59 := by
        rcases hhi with e | e
        · omega
        · unfold dbm at e
          rw [show mst (2 + 1) = 59 from v3] at e
          split at e <;> omega
      rw [hd] at hlo
      have em : hMp (o + 306) = 11 := by unfold hMp; omega
      rw [em, hd]
      omega
  · obtain ⟨e0, e1, e2⟩ := late n c q o m F (by omega)
    rw [e1, e0, e2, if_neg h2, if_neg h2]
    -- the leap day falls out of both
    have hdb : ∀ k : Int, 3 ≤ k → dbm q k = mst k + (if leapB q = true then 1 else 0) := by
      intro k hk
      unfold dbm
      by_cases hlp : leapB q = true
      · rw [if_pos ⟨by omega, hlp⟩, if_pos hlp]
      · rw [if_neg (fun j => hlp j.2), if_neg hlp]
    rw [hdb m (by omega)] at hlo ⊢
    rw [hdb (m + 1) (by omega)] at hhi
    rw [hdb 3 (by omega), v3]
    generalize (if leapB q = true then (1 : Int) else 0) = lp at *
    have h12 := F.m12
    rcases twelve m (by omega) h12 with rfl | rfl | rfl | rfl | rfl | rfl | rfl | rfl | rfl | rfl | rfl | rfl
    · omega
    · omega
    all_goals
      simp only [Int.reduceAdd] at hhi
      unfold hMp
      omega

end Go.Proofs.YbulkdobsDoor.Cal
