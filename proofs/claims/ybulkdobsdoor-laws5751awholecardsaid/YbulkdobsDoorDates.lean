/-
  S5751C: THE WALKS OF THE CALENDAR: floorDiv, daysBeforeYear, isLeapYear, daysBeforeMonth, civilDate; zzs5751cdate.
-/
import Derived.Test.YbulkdobsDoorRows
import Derived.Test.YbulkdobsDoorCal
import Derived.WalkKit
import Derived.BigQuiet
import Derived.Deep.QuietTactic
import Derived.Deep.DeepCutAuto
import Derived.WalkLawsBesides
import Derived.WalkSpells
namespace Go.Proofs.YbulkdobsDoor
open Go.RowKit

theorem floor_any (a : Int) (h0 : 0 ≤ a) (h1 : a ≤ 1000000000) (w : World) : Calls Ybad.prog 28 #[.int .i64 a, .int .i64 146097] w fun e w' => e = .returned (.int .i64 (a / 146097)) ∧ w = w' := by
  have hneg : ¬ a < 0 := by omega
  go_enter Ybad.func28, Ybad.ntmps28
  go_wp2
  go_ret
  exact ⟨rfl, rfl⟩

theorem dby_any (y : Int) (h0 : 0 ≤ y) (h1 : y ≤ 10000) (w : World) : Calls Ybad.prog 29 #[.int .i64 y] w fun e w' => e = .returned (.int .i64 (Cal.dby y)) ∧ w = w' := by
  go_enter Ybad.func29, Ybad.ntmps29
  go_wp2
  go_ret
  exact ⟨rfl, rfl⟩

theorem leap_any (y : Int) (h0 : 0 ≤ y) (w : World) : Calls Ybad.prog 35 #[.int .i64 y] w fun e w' => e = .returned (.bool (Cal.leapB y)) ∧ w = w' := by
  by_cases h4 : (y % 4 == 0) = true
  · by_cases h100 : (y % 100 != 0) = true
    · have e : Cal.leapB y = true := by unfold Cal.leapB; rw [h4, h100]; rfl
      rw [e]
      go_enter Ybad.func35, Ybad.ntmps35
      go_wp2
      go_ret
      exact ⟨rfl, rfl⟩
    · have h100' : (y % 100 != 0) = false := by simpa using h100
      have e : Cal.leapB y = (y % 400 == 0) := by unfold Cal.leapB; rw [h4, h100']; rfl
      rw [e]
      go_enter Ybad.func35, Ybad.ntmps35
      go_wp2
      go_ret
      exact ⟨rfl, rfl⟩
  · have h4' : (y % 4 == 0) = false := by simpa using h4
    have e : Cal.leapB y = false := by unfold Cal.leapB; rw [h4']; rfl
    rw [e]
    go_enter Ybad.func35, Ybad.ntmps35
    go_wp2
    go_ret
    exact ⟨rfl, rfl⟩

theorem dbm_any (y m : Int) (h0 : 0 ≤ y) (h1 : 1 ≤ m) (h2 : m ≤ 13) (w : World) (hms : ∀ i, i < 13 → w.cell? ⟨1, i, none⟩ = some (.int .i64 (Cal.ml.getD i 0))) :
    Calls Ybad.prog 30 #[.int .i64 y, .int .i64 m] w fun e w' => e = .returned (.int .i64 (Cal.dbm y m)) ∧ w = w' := by
  obtain ⟨k, rfl⟩ : ∃ k : Nat, m = (k : Int) + 1 := ⟨(m - 1).toNat, by omega⟩
  have hc := hms k (by omega)
  have hv : Cal.mst ((k : Int) + 1) = Cal.ml.getD k 0 := by unfold Cal.mst; congr 1; omega
  have hb : 0 ≤ Cal.ml.getD k 0 ∧ Cal.ml.getD k 0 ≤ 365 := by
    have : ∀ j : Fin 13, 0 ≤ Cal.ml.getD j.val 0 ∧ Cal.ml.getD j.val 0 ≤ 365 := by decide
    exact this ⟨k, by omega⟩
  have HV : Hid (Cal.mst ((k : Int) + 1) = Cal.ml.getD k 0) := hv
  clear hms hv
  generalize Cal.ml.getD k 0 = v at *
  by_cases hgt : 2 < (k : Int) + 1
  · cases hl : Cal.leapB y
    · have e : Cal.dbm y ((k : Int) + 1) = v := by unfold Cal.dbm; rw [HV.out, hl]; simp
      rw [e]
      go_enter Ybad.func30, Ybad.ntmps30
      go_wp2_with (go_at_call 35; refine (leap_any y h0 _).mono ?_; rintro e w' ⟨rfl, rfl⟩)
      go_ret
      exact ⟨rfl, rfl⟩
    · have e : Cal.dbm y ((k : Int) + 1) = v + 1 := by unfold Cal.dbm; rw [HV.out, hl]; simp; omega
      rw [e]
      go_enter Ybad.func30, Ybad.ntmps30
      go_wp2_with (go_at_call 35; refine (leap_any y h0 _).mono ?_; rintro e w' ⟨rfl, rfl⟩)
      go_ret
      exact ⟨rfl, rfl⟩
  · have e : Cal.dbm y ((k : Int) + 1) = v := by unfold Cal.dbm; rw [HV.out, if_neg (fun j => hgt j.1)]; omega
    rw [e]
    go_enter Ybad.func30, Ybad.ntmps30
    go_wp2
    go_ret
    exact ⟨rfl, rfl⟩

theorem dby_bd (y : Int) (h0 : 0 ≤ y) (h1 : y ≤ 400) : 0 ≤ Cal.dby y ∧ Cal.dby y ≤ 146097 := by unfold Cal.dby; omega
theorem dby_guess (r : Int) (h0 : 0 ≤ r) (h1 : r < 146097) : 0 ≤ r / 366 ∧ r / 366 ≤ 399 ∧ Cal.dby (r / 366) ≤ r := by unfold Cal.dby; omega
theorem dby_400 : Cal.dby 400 = 146097 := by decide
theorem leap_cycle (c q : Int) : Cal.leapB (400 * c + q) = Cal.leapB q := by
  unfold Cal.leapB
  rw [show (400 * c + q) % 4 = q % 4 by omega, show (400 * c + q) % 100 = q % 100 by omega, show (400 * c + q) % 400 = q % 400 by omega]
theorem dbm_cycle (c q m : Int) : Cal.dbm (400 * c + q) m = Cal.dbm q m := by unfold Cal.dbm; rw [leap_cycle]
theorem dbm_bd (q m : Int) (h1 : 1 ≤ m) (h2 : m ≤ 12) : 0 ≤ Cal.dbm q m ∧ Cal.dbm q m ≤ 335 ∧ Cal.dbm q m ≤ 31 * (m - 1) := by
  obtain ⟨v1, v2, v3, v4, v5, v6, v7, v8, v9, v10, v11, v12, v13⟩ := Cal.mst_vals
  unfold Cal.dbm
  rcases Cal.twelve m h1 h2 with rfl | rfl | rfl | rfl | rfl | rfl | rfl | rfl | rfl | rfl | rfl | rfl <;> split <;> omega

set_option maxHeartbeats 1000000 in
theorem civil_any (n : Int) (h0 : 0 ≤ n) (h1 : n < 3652425) (w : World) (hms : ∀ i, i < 13 → w.cell? ⟨1, i, none⟩ = some (.int .i64 (Cal.ml.getD i 0))) :
    Calls Ybad.prog 26 #[.int .i64 n] w fun e w' => ∃ c q o m : Int, Cal.Found n c q o m ∧ e = .returned (.tuple #[.int .i64 (400 * c + q), .int .i64 m, .int .i64 (o - Cal.dbm q m + 1)]) ∧ w = w' := by
  have HM : Hid (∀ i, i < 13 → w.cell? ⟨1, i, none⟩ = some (.int .i64 (Cal.ml.getD i 0))) := hms
  clear hms
  obtain ⟨c, hc⟩ : ∃ c, c = n / 146097 := ⟨_, rfl⟩
  obtain ⟨r, hr⟩ : ∃ r, r = n - c * 146097 := ⟨_, rfl⟩
  have hc0 : 0 ≤ c ∧ c ≤ 24 := by omega
  have hr0 : 0 ≤ r ∧ r < 146097 := by omega
  have hg := dby_guess r hr0.1 hr0.2
  have HC : Hid (c = n / 146097) := hc
  have HR : Hid (r = n - c * 146097) := hr
  clear hc hr
  have cf : Hid (∀ w, Calls Ybad.prog 28 #[.int .i64 n, .int .i64 146097] w fun e w' => e = .returned (.int .i64 c) ∧ w = w') := fun w => by rw [HC.out]; exact floor_any n h0 (by omega) w
  go_enter Ybad.func26, Ybad.ntmps26
  go_wp2_with fail
  refine (cf.out _).mono ?_
  rintro e w' ⟨rfl, rfl⟩
  have hin : 0 ≤ n - c * 146097 ∧ n - c * 146097 < 146097 := by have := HR.out; omega
  go_upto_region 2 with fail
  go_cut [6] (fun v wx => v = .int .i64 r ∧ w = wx)
  case first =>
    go_wp2
    go_meet
    exact ⟨by rw [HR.out], rfl⟩
  case rest =>
    obtain ⟨rfl, rfl⟩ := hcut
    clear hin cf
    go_wp2
    go_loop [7] (fun v => ∃ q : Int, 0 ≤ q ∧ q ≤ 399 ∧ Cal.dby q ≤ r ∧ v = .int .i64 q) (fun v => (400 - intOf v).toNat)
    case atStart => exact ⟨r / 366, hg.1, hg.2.1, hg.2.2, rfl⟩
    case round =>
      obtain ⟨q, hq0, hq1, hqr, rfl⟩ := hrel
      clear hg
      by_cases hgo : Cal.dby (q + 1) ≤ r
      · have hq : q < 399 := by
          have := dby_400
          by_cases e : q = 399
          · subst e; rw [show (399 : Int) + 1 = 400 from rfl] at hgo; omega
          · omega
        go_wp2_with (go_at_call 29; refine (dby_any (q + 1) (by omega) (by omega) _).mono ?_; rintro e w' ⟨rfl, rfl⟩)
        go_round
        case rel => exact ⟨q + 1, by omega, by omega, hgo, rfl⟩
        case measure => simp [intOf]; omega
      · have hbq := dby_bd q hq0 (by omega)
        have hlen := Cal.dby_len q ⟨hq0, hq1⟩
        have hlen2 : Cal.dby (q + 1) - Cal.dby q ≤ 366 := by rw [hlen]; split <;> omega
        have HGO : Hid (r < Cal.dby (q + 1)) := by show _ < _; omega
        clear hlen
        have hob : 0 ≤ r - Cal.dby q ∧ r - Cal.dby q ≤ 365 := by omega
        have cd : Hid (∀ m : Int, 1 ≤ m → m ≤ 13 → Calls Ybad.prog 30 #[.int .i64 (400 * c + q), .int .i64 m] w fun e w' => e = .returned (.int .i64 (Cal.dbm q m)) ∧ w = w') := fun m a b => by
          have h := dbm_any (400 * c + q) m (by omega) a b w HM.out
          rwa [dbm_cycle] at h
        go_wp2_with fail
        refine (dby_any (q + 1) (by omega) (by omega) _).mono ?_
        rintro e w' ⟨rfl, rfl⟩
        go_wp2_with fail
        refine (dby_any q (by omega) (by omega) _).mono ?_
        rintro e w' ⟨rfl, rfl⟩
        go_wp2
        generalize ho : r - Cal.dby q = o at *
        have HO : Hid (r - Cal.dby q = o) := ho
        clear ho hlen2
        have hst := dbm_bd q (o / 31 + 1) (by omega) (by omega)
        go_loop [3] (fun v => ∃ m : Int, 1 ≤ m ∧ m ≤ 12 ∧ Cal.dbm q m ≤ o ∧ v = .int .i64 m) (fun v => (12 - intOf v).toNat)
        case atStart => exact ⟨o / 31 + 1, by omega, by omega, by omega, rfl⟩
        case round =>
          clear hst
          obtain ⟨m, hm1, hm2, hmo, rfl⟩ := hrel
          by_cases hm12 : m < 12
          · by_cases hle : Cal.dbm q (m + 1) ≤ o
            · go_wp2_with (go_at_call 30; refine (cd.out (m + 1) (by omega) (by omega)).mono ?_; rintro e w' ⟨rfl, rfl⟩)
              go_round
              case rel => exact ⟨m + 1, by omega, by omega, hle, rfl⟩
              case measure => simp [intOf]; omega
            · have hd := dbm_bd q m hm1 hm2
              go_wp2_with fail
              refine (cd.out (m + 1) (by omega) (by omega)).mono ?_
              rintro e w' ⟨rfl, rfl⟩
              go_wp2_with fail
              refine (cd.out m (by omega) (by omega)).mono ?_
              rintro e w' ⟨rfl, rfl⟩
              go_wp2
              go_ret3
              exact ⟨c, q, o, m, ⟨by have := HR.out; have := HO.out; omega, hc0.1, hq0, hq1, hob.1, by have := HO.out; have := HGO.out; omega, hm1, hm2, hmo, .inr (by omega)⟩, rfl, rfl⟩
          · have hd := dbm_bd q m hm1 hm2
            go_wp2_with fail
            refine (cd.out m (by omega) (by omega)).mono ?_
            rintro e w' ⟨rfl, rfl⟩
            go_wp2
            go_ret3
            exact ⟨c, q, o, m, ⟨by have := HR.out; have := HO.out; omega, hc0.1, hq0, hq1, hob.1, by have := HO.out; have := HGO.out; omega, hm1, hm2, hmo, .inl (by omega)⟩, rfl, rfl⟩

theorem ret3 {a b c a' b' c' : Int} (h1 : a = a') (h2 : b = b') (h3 : c = c') : Ending.returned (.tuple #[.int .i64 a, .int .i64 b, .int .i64 c]) = .returned (.tuple #[.int .i64 a', .int .i64 b', .int .i64 c']) := by rw [h1, h2, h3]

set_option maxHeartbeats 1000000 in
theorem cdate_any (n c q o m : Int) (h0 : 0 ≤ n) (h1 : n < 3652425) (F : Cal.Found n c q o m) (w : World) :
    Calls Ybad.prog 15 #[.int .i64 n] w fun r w' => r = .returned (.tuple #[.int .i64 (400 * c + q), .int .i64 m, .int .i64 (o - Cal.dbm q m + 1)]) ∧ w = w' := by
  obtain ⟨s1, s2, s3⟩ := Cal.same_date n c q o m F
  have hxb : 0 ≤ Cal.hDoy (Cal.hDoe n) ∧ Cal.hDoy (Cal.hDoe n) ≤ 1000 := by
    have h2 := F.o1
    rw [Cal.dby_len _ ⟨F.q0, F.q1⟩] at h2
    have h3 := F.o0
    have h4 := F.lo
    by_cases hm : m ≤ 2
    · obtain ⟨e1, e2⟩ := Cal.early n c q o m F hm
      rw [e2]
      split at h2 <;> omega
    · obtain ⟨e0, e1, e2⟩ := Cal.late n c q o m F (by omega)
      obtain ⟨v1, v2, v3, v4, v5, v6, v7, v8, v9, v10, v11, v12, v13⟩ := Cal.mst_vals
      have e3 : Cal.dbm q 3 ≤ Cal.dbm q m ∧ 0 ≤ Cal.dbm q 3 := by
        have hm1 := F.m12
        unfold Cal.dbm
        rcases Cal.twelve m (by omega) hm1 with rfl | rfl | rfl | rfl | rfl | rfl | rfl | rfl | rfl | rfl | rfl | rfl <;> simp only [v3, v4, v5, v6, v7, v8, v9, v10, v11, v12] <;> (try omega) <;> split <;> split <;> omega
      rw [e2]
      split at h2 <;> omega
  have hm1 := F.m1
  have hm2 := F.m12
  have hEb : 0 ≤ Cal.hEra n ∧ Cal.hEra n ≤ 25 := by unfold Cal.hEra; omega
  have heb : 0 ≤ Cal.hDoe n ∧ Cal.hDoe n ≤ 146096 := by unfold Cal.hDoe Cal.hEra; omega
  have hYb : 0 ≤ Cal.hYoe (Cal.hDoe n) ∧ Cal.hYoe (Cal.hDoe n) ≤ 401 := by unfold Cal.hYoe; omega
  have hMb : 0 ≤ Cal.hMp (Cal.hDoy (Cal.hDoe n)) ∧ Cal.hMp (Cal.hDoy (Cal.hDoe n)) ≤ 11 := by rw [s1]; split <;> omega
  obtain ⟨z, hz⟩ : ∃ z, z = n - 60 + 146097 := ⟨_, rfl⟩
  have hzb : 0 ≤ z ∧ z ≤ 4000000 := by omega
  obtain ⟨E, hE⟩ : ∃ E, E = Cal.hEra n := ⟨_, rfl⟩
  obtain ⟨e, he⟩ : ∃ e, e = Cal.hDoe n := ⟨_, rfl⟩
  obtain ⟨Y, hY⟩ : ∃ Y, Y = Cal.hYoe (Cal.hDoe n) := ⟨_, rfl⟩
  obtain ⟨x, hx⟩ : ∃ x, x = Cal.hDoy (Cal.hDoe n) := ⟨_, rfl⟩
  obtain ⟨mp, hmp⟩ : ∃ mp, mp = Cal.hMp (Cal.hDoy (Cal.hDoe n)) := ⟨_, rfl⟩
  obtain ⟨yy, hyy⟩ : ∃ yy, yy = Y + E * 400 := ⟨_, rfl⟩
  obtain ⟨d, hd⟩ : ∃ d, d = x - (153 * mp + 2) / 5 + 1 := ⟨_, rfl⟩
  have HZ : Hid (z = n - 60 + 146097) := hz
  have HE : Hid (E = z / 146097) := by rw [hE, hz]; rfl
  have He : Hid (e = z - E * 146097) := by rw [he, hE, hz]; rfl
  have HY : Hid (Y = (e - e / 1460 + e / 36524 - e / 146096) / 365) := by rw [hY, he]; rfl
  have HYY : Hid (yy = Y + E * 400) := hyy
  have HX : Hid (x = e - (365 * Y + Y / 4 - Y / 100)) := by rw [hx, hY, he]; rfl
  have HMP : Hid (mp = (5 * x + 2) / 153) := by rw [hmp, hx]; rfl
  have HD : Hid (d = x - (153 * mp + 2) / 5 + 1) := hd
  rw [← hE] at hEb
  rw [← he] at heb
  rw [← hY] at hYb
  rw [← hx] at hxb
  rw [← hmp] at hMb
  have S1 : Hid (mp = if m ≤ 2 then m + 9 else m - 3) := by rw [hmp]; exact s1
  have S2 : Hid (d = o - Cal.dbm q m + 1) := by rw [hd, hmp, hx]; exact s2
  have S3 : Hid (yy + (if m ≤ 2 then 1 else 0) - 400 = 400 * c + q) := by rw [hyy, hE, hY]; exact s3
  have hyb : 0 ≤ yy ∧ yy ≤ 20000 := by omega
  have hdb : -2000 ≤ d ∧ d ≤ 2000 := by omega
  clear hz hE he hY hx hmp hyy hd s1 s2 s3 F
  go_enter Ybad.func15, Ybad.ntmps15
  go_upto_region 1 with fail
  go_cut [5] (fun v wx => v = .int .i64 z ∧ w = wx)
  case first =>
    go_wp2
    go_meet
    exact ⟨by rw [HZ.out], rfl⟩
  case rest =>
    obtain ⟨rfl, rfl⟩ := hcut
    go_upto_region 2 with fail
    go_cut [6] (fun v wx => v = .int .i64 E ∧ w = wx)
    case first =>
      go_wp2
      go_meet
      exact ⟨by rw [HE.out], rfl⟩
    case rest =>
      obtain ⟨rfl, rfl⟩ := hcut
      go_upto_region 3 with fail
      go_cut [7] (fun v wx => v = .int .i64 e ∧ w = wx)
      case first =>
        go_wp2
        go_meet
        exact ⟨by rw [He.out], rfl⟩
      case rest =>
        obtain ⟨rfl, rfl⟩ := hcut
        go_upto_region 4 with fail
        go_cut [8] (fun v wx => v = .int .i64 Y ∧ w = wx)
        case first =>
          go_wp2
          go_meet
          exact ⟨by rw [HY.out], rfl⟩
        case rest =>
          obtain ⟨rfl, rfl⟩ := hcut
          go_upto_region 5 with fail
          go_cut [9] (fun v wx => v = .int .i64 yy ∧ w = wx)
          case first =>
            go_wp2
            go_meet
            exact ⟨by rw [HYY.out], rfl⟩
          case rest =>
            obtain ⟨rfl, rfl⟩ := hcut
            go_upto_region 6 with fail
            go_cut [10] (fun v wx => v = .int .i64 x ∧ w = wx)
            case first =>
              go_wp2
              go_meet
              exact ⟨by rw [HX.out], rfl⟩
            case rest =>
              obtain ⟨rfl, rfl⟩ := hcut
              go_upto_region 7 with fail
              go_cut [11] (fun v wx => v = .int .i64 mp ∧ w = wx)
              case first =>
                go_wp2
                go_meet
                exact ⟨by rw [HMP.out], rfl⟩
              case rest =>
                obtain ⟨rfl, rfl⟩ := hcut
                go_upto_region 8 with fail
                go_cut [12] (fun v wx => v = .int .i64 d ∧ w = wx)
                case first =>
                  go_wp2
                  go_meet
                  exact ⟨by rw [HD.out], rfl⟩
                case rest =>
                  obtain ⟨rfl, rfl⟩ := hcut
                  by_cases hm : m ≤ 2
                  · have hmp9 : 10 ≤ mp := by have := S1.out; rw [if_pos hm] at this; omega
                    have hmm : mp - 9 ≤ 2 := by have := S1.out; rw [if_pos hm] at this; omega
                    go_wp2
                    go_ret3
                    have e1 := S1.out
                    have e3 := S3.out
                    rw [if_pos hm] at e1 e3
                    exact ⟨ret3 e3 (by omega) S2.out, rfl⟩
                  · have hmp9 : mp < 10 := by have := S1.out; rw [if_neg hm] at this; omega
                    have hmm : ¬ mp + 3 ≤ 2 := by omega
                    go_wp2
                    go_ret3
                    have e1 := S1.out
                    have e3 := S3.out
                    rw [if_neg (by omega)] at e1 e3
                    exact ⟨ret3 (by omega) (by omega) S2.out, rfl⟩

end Go.Proofs.YbulkdobsDoor
