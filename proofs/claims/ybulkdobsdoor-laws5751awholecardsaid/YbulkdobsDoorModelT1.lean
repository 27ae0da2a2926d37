import Derived.Test.YbulkdobsDoorModelT0
namespace Go.Proofs.YbulkdobsDoor
open Go.RowKit

set_option maxRecDepth 100000 in
set_option maxHeartbeats 4000000 in
theorem amodel_sec (m dd n : Int) (lead : Bool) (w : World) (hnz : ¬ (m = 0 ∧ dd = 0 ∧ n = 0)) (hm : -12000000000 < m ∧ m < 12000000000) (hn : -86400000000000 < n ∧ n < 86400000000000) (y mo h mi s f : Int)
    (ey : m.tdiv 12 = y) (emo : m.tmod 12 = mo) (eh : n.tdiv 3600000000000 = h) (emi : (n.tmod 3600000000000).tdiv 60000000000 = mi) (es : (n.tmod 60000000000).tdiv 1000000000 = s) (ef : n.tmod 1000000000 = f)
    (by_ : -1000000000 < y ∧ y < 1000000000) (bmo : -12 < mo ∧ mo < 12) (bd : -1000000000 < dd ∧ dd < 1000000000) (bh : -24 < h ∧ h < 24) (bmi : -60 < mi ∧ mi < 60) (bs : -60 < s ∧ s < 60) (bf : -1000000000 < f ∧ f < 1000000000)
    (hlead : (y > 0 ∨ mo > 0 ∨ dd > 0 ∨ h > 0 ∨ mi > 0 ∨ s > 0 ∨ f > 0) ↔ lead = false) (q3 : ¬ (s = 0 ∧ f = 0)) (hsf : (0 ≤ s ∧ 0 ≤ f) ∨ (s ≤ 0 ∧ f ≤ 0)) :
    Calls Ybad.prog 7 #[.int .i64 m, .int .i64 dd, .int .i64 n] w fun e w' => e = .returned (.string (strOfNums (wholeT y mo dd h mi s f lead))) ∧ Below w.heap.size w w' := by
  have Q3 : Hid (¬ (s = 0 ∧ f = 0)) := q3
  clear q3
  have EY : Hid (m.tdiv 12 = y) := ey
  have EMO : Hid (m.tmod 12 = mo) := emo
  have EH : Hid (n.tdiv 3600000000000 = h) := eh
  have EMI : Hid ((n.tmod 3600000000000).tdiv 60000000000 = mi) := emi
  have ES : Hid ((n.tmod 60000000000).tdiv 1000000000 = s) := es
  have EF : Hid (n.tmod 1000000000 = f) := ef
  clear ey emo eh emi es ef
  have HL : Hid ((y > 0 ∨ mo > 0 ∨ dd > 0 ∨ h > 0 ∨ mi > 0 ∨ s > 0 ∨ f > 0) ↔ lead = false) := hlead
  have HNZ : Hid (¬ (m = 0 ∧ dd = 0 ∧ n = 0)) := hnz
  clear hlead hnz
  go_enter Ybad.func7, Ybad.ntmps7
  go_upto_region 1 with fail
  go_cut [25] (fun c wx => c = .bool false ∧ w = wx)
  case first =>
    by_cases h1 : m = 0
    · have b1 : (m == 0) = true := by simp [h1]
      clear h1
      by_cases h2 : dd = 0
      · have b2 : (dd == 0) = true := by simp [h2]
        have b3 : (n == 0) = false := by
          simp at b1
          have := HNZ.out
          simp; intro h3; exact this ⟨b1, h2, h3⟩
        clear h2
        go_wp2
        go_meet
        exact ⟨rfl, rfl⟩
      · have b2 : (dd == 0) = false := by simp [h2]
        clear h2
        go_wp2
        go_meet
        exact ⟨rfl, rfl⟩
    · have b1 : (m == 0) = false := by simp [h1]
      clear h1
      go_wp2
      go_meet
      exact ⟨rfl, rfl⟩
  case rest =>
    obtain ⟨rfl, rfl⟩ := hcut
    clear HNZ
    have hwm := w64 ((n.tmod 3600000000000).tdiv 60000000000) (by rw [EMI.out]; omega)
    have hws := w64 ((n.tmod 60000000000).tdiv 1000000000) (by rw [ES.out]; omega)
    go_upto_region 9 with fail
    go_cut [7, 8, 9, 10, 11, 12, 13] (fun a1 a2 a3 a4 a5 a6 c wx => a1 = .int .i64 y ∧ a2 = .int .i64 mo ∧ a3 = .int .i64 h ∧ a4 = .int .i64 mi ∧ a5 = .int .i64 s ∧ a6 = .int .i64 f ∧ c = .bool (!lead) ∧ w = wx)
    case first =>
      by_cases p0 : m.tdiv 12 > 0
      · have hF : (!lead) = true := by rw [HL.out.1 (.inl (by first | exact p0 | (rw [← EY.out]; exact p0) | (rw [← EMO.out]; exact p0) | (rw [← EH.out]; exact p0) | (rw [← EMI.out]; exact p0) | (rw [← ES.out]; exact p0) | (rw [← EF.out]; exact p0)))]; rfl
        go_wp2
        go_meet
        exact ⟨by rw [EY.out], by rw [EMO.out], by rw [EH.out], by first | (rw [EMI.out]; done) | rw [hwm, EMI.out], by first | (rw [ES.out]; done) | rw [hws, ES.out], by rw [EF.out], by rw [hF], rfl⟩
      · skip
        by_cases p1 : m.tmod 12 > 0
        · have hF : (!lead) = true := by rw [HL.out.1 (.inr (.inl (by first | exact p1 | (rw [← EY.out]; exact p1) | (rw [← EMO.out]; exact p1) | (rw [← EH.out]; exact p1) | (rw [← EMI.out]; exact p1) | (rw [← ES.out]; exact p1) | (rw [← EF.out]; exact p1))))]; rfl
          go_wp2
          go_meet
          exact ⟨by rw [EY.out], by rw [EMO.out], by rw [EH.out], by first | (rw [EMI.out]; done) | rw [hwm, EMI.out], by first | (rw [ES.out]; done) | rw [hws, ES.out], by rw [EF.out], by rw [hF], rfl⟩
        · skip
          by_cases p2 : dd > 0
          · have hF : (!lead) = true := by rw [HL.out.1 (.inr (.inr (.inl (by first | exact p2 | (rw [← EY.out]; exact p2) | (rw [← EMO.out]; exact p2) | (rw [← EH.out]; exact p2) | (rw [← EMI.out]; exact p2) | (rw [← ES.out]; exact p2) | (rw [← EF.out]; exact p2)))))]; rfl
            go_wp2
            go_meet
            exact ⟨by rw [EY.out], by rw [EMO.out], by rw [EH.out], by first | (rw [EMI.out]; done) | rw [hwm, EMI.out], by first | (rw [ES.out]; done) | rw [hws, ES.out], by rw [EF.out], by rw [hF], rfl⟩
          · skip
            by_cases p3 : n.tdiv 3600000000000 > 0
            · have hF : (!lead) = true := by rw [HL.out.1 (.inr (.inr (.inr (.inl (by first | exact p3 | (rw [← EY.out]; exact p3) | (rw [← EMO.out]; exact p3) | (rw [← EH.out]; exact p3) | (rw [← EMI.out]; exact p3) | (rw [← ES.out]; exact p3) | (rw [← EF.out]; exact p3))))))]; rfl
              go_wp2
              go_meet
              exact ⟨by rw [EY.out], by rw [EMO.out], by rw [EH.out], by first | (rw [EMI.out]; done) | rw [hwm, EMI.out], by first | (rw [ES.out]; done) | rw [hws, ES.out], by rw [EF.out], by rw [hF], rfl⟩
            · skip
              by_cases p4 : (n.tmod 3600000000000).tdiv 60000000000 > 0
              · have hF : (!lead) = true := by rw [HL.out.1 (.inr (.inr (.inr (.inr (.inl (by first | exact p4 | (rw [← EY.out]; exact p4) | (rw [← EMO.out]; exact p4) | (rw [← EH.out]; exact p4) | (rw [← EMI.out]; exact p4) | (rw [← ES.out]; exact p4) | (rw [← EF.out]; exact p4)))))))]; rfl
                go_wp2
                go_meet
                exact ⟨by rw [EY.out], by rw [EMO.out], by rw [EH.out], by first | (rw [EMI.out]; done) | rw [hwm, EMI.out], by first | (rw [ES.out]; done) | rw [hws, ES.out], by rw [EF.out], by rw [hF], rfl⟩
              · skip
                by_cases p5 : (n.tmod 60000000000).tdiv 1000000000 > 0
                · have hF : (!lead) = true := by rw [HL.out.1 (.inr (.inr (.inr (.inr (.inr (.inl (by first | exact p5 | (rw [← EY.out]; exact p5) | (rw [← EMO.out]; exact p5) | (rw [← EH.out]; exact p5) | (rw [← EMI.out]; exact p5) | (rw [← ES.out]; exact p5) | (rw [← EF.out]; exact p5))))))))]; rfl
                  go_wp2
                  go_meet
                  exact ⟨by rw [EY.out], by rw [EMO.out], by rw [EH.out], by first | (rw [EMI.out]; done) | rw [hwm, EMI.out], by first | (rw [ES.out]; done) | rw [hws, ES.out], by rw [EF.out], by rw [hF], rfl⟩
                · skip
                  by_cases p6 : n.tmod 1000000000 > 0
                  · have hF : (!lead) = true := by rw [HL.out.1 (.inr (.inr (.inr (.inr (.inr (.inr ((by first | exact p6 | (rw [← EY.out]; exact p6) | (rw [← EMO.out]; exact p6) | (rw [← EH.out]; exact p6) | (rw [← EMI.out]; exact p6) | (rw [← ES.out]; exact p6) | (rw [← EF.out]; exact p6)))))))))]; rfl
                    go_wp2
                    go_meet
                    exact ⟨by rw [EY.out], by rw [EMO.out], by rw [EH.out], by first | (rw [EMI.out]; done) | rw [hwm, EMI.out], by first | (rw [ES.out]; done) | rw [hws, ES.out], by rw [EF.out], by rw [hF], rfl⟩
                  · skip
                    have hF : (!lead) = false := by
                      rcases lead with _ | _
                      · have := HL.out.2 rfl
                        rw [← EY.out, ← EMO.out, ← EH.out, ← EMI.out, ← ES.out, ← EF.out] at this
                        omega
                      · rfl
                    go_wp2
                    go_meet
                    exact ⟨by rw [EY.out], by rw [EMO.out], by rw [EH.out], by first | (rw [EMI.out]; done) | rw [hwm, EMI.out], by first | (rw [ES.out]; done) | rw [hws, ES.out], by rw [EF.out], by rw [hF], rfl⟩
    case rest =>
      obtain ⟨rfl, rfl, rfl, rfl, rfl, rfl, rfl, rfl⟩ := hcut
      clear EY EMO EH EMI ES EF hwm hws
      go_upto_if 68 with fail
      go_cut [15] (fun v wx => v = .string (strOfNums (leadT lead)) ∧ w = wx)
      case first =>
        rcases lead with _ | _
        · go_wp2
          go_meet
          exact ⟨rfl, rfl⟩
        · go_wp2
          go_meet
          exact ⟨rfl, rfl⟩
      case rest =>
        obtain ⟨rfl, rfl⟩ := hcut
        have hsL : (strOfNums (leadT lead)).size ≤ 1 := str_le (by cases lead <;> simp [leadT])
        go_wp2_with fail
        refine (acomp y 89 lead _ by_.1 by_.2).mono ?_
        rintro e w1 ⟨rfl, hb1⟩
        have hs1 := str_le (comp_le y 89 lead by_.1 by_.2)
        go_wp2_with fail
        refine (acomp mo 77 lead _ (by omega) (by omega)).mono ?_
        rintro e w2 ⟨rfl, hb2⟩
        have hs2 := str_le (comp_le mo 77 lead (by omega) (by omega))
        go_wp2_with fail
        refine (acomp dd 68 lead _ bd.1 bd.2).mono ?_
        rintro e w3 ⟨rfl, hb3⟩
        have hs3 := str_le (comp_le dd 68 lead bd.1 bd.2)
        have HB3 : Below w.heap.size w w3 := hb1.trans ((hb2.mono hb1.size).trans (hb3.mono (Nat.le_trans hb1.size hb2.size)))
        clear hb1 hb2 hb3
        have hb : ∃ tb : Bool, tb = decide (h ≠ 0 ∨ mi ≠ 0 ∨ s ≠ 0 ∨ f ≠ 0) := ⟨_, rfl⟩
        obtain ⟨tb, htb⟩ := hb
        have HTB : Hid (tb = decide (h ≠ 0 ∨ mi ≠ 0 ∨ s ≠ 0 ∨ f ≠ 0)) := htb
        clear htb
        go_upto_region 18 with fail
        go_cut [99] (fun c wx => c = .bool tb ∧ w3 = wx)
        case first =>
          by_cases q1 : h = 0
          · have c1 : (h != 0) = false := by simp [q1]
            have d1 := q1
            clear q1
            by_cases q2 : mi = 0
            · have c2 : (mi != 0) = false := by simp [q2]
              by_cases q3 : s = 0
              · have c3 : (s != 0) = false := by simp [q3]
                by_cases q4 : f = 0
                · have c4 : (f != 0) = false := by simp [q4]
                  have HF : Hid (tb = false) := by show _ = _; rw [HTB.out]; simp [d1, q2, q3, q4]
                  clear q2 q3 q4 d1
                  go_wp2
                  go_meet
                  exact ⟨by rw [HF.out], rfl⟩
                · have c4 : (f != 0) = true := by simp [q4]
                  have HF : Hid (tb = true) := by show _ = _; rw [HTB.out]; simp [q4]
                  clear q2 q3 q4 d1
                  go_wp2
                  go_meet
                  exact ⟨by rw [HF.out], rfl⟩
              · have c3 : (s != 0) = true := by simp [q3]
                have HF : Hid (tb = true) := by show _ = _; rw [HTB.out]; simp [q3]
                clear q2 q3 d1
                go_wp2
                go_meet
                exact ⟨by rw [HF.out], rfl⟩
            · have c2 : (mi != 0) = true := by simp [q2]
              have HF : Hid (tb = true) := by show _ = _; rw [HTB.out]; simp [q2]
              clear q2 d1
              go_wp2
              go_meet
              exact ⟨by rw [HF.out], rfl⟩
          · have c1 : (h != 0) = true := by simp [q1]
            have HF : Hid (tb = true) := by show _ = _; rw [HTB.out]; simp [q1]
            clear q1
            go_wp2
            go_meet
            exact ⟨by rw [HF.out], rfl⟩
        case rest =>
          obtain ⟨rfl, rfl⟩ := hcut
          go_upto_if 99 with fail
          go_cut [15] (fun v wx => v = .string (strOfNums (dateT y mo dd lead ++ tT h mi s f)) ∧ w3 = wx)
          case first =>
            rcases tb with _ | _
            · have HF : Hid (tT h mi s f = []) := by show _ = _; rw [tT, if_neg (of_decide_eq_false HTB.out.symm)]
              go_wp2
              go_meet
              refine ⟨?_, rfl⟩
              rw [HF.out, show (⟨#[80]⟩ : ByteArray) = strOfNums [80] from rfl, str_app, str_app, str_app, str_app, List.append_nil]
              rfl
            · have HF : Hid (tT h mi s f = [84]) := by show _ = _; rw [tT, if_pos (of_decide_eq_true HTB.out.symm)]
              go_wp2
              go_meet
              refine ⟨?_, rfl⟩
              rw [HF.out, show (⟨#[80]⟩ : ByteArray) = strOfNums [80] from rfl, show (⟨#[84]⟩ : ByteArray) = strOfNums [84] from rfl, str_app, str_app, str_app, str_app, str_app]
              rfl
          case rest =>
            obtain ⟨rfl, rfl⟩ := hcut
            have hsT : (strOfNums (dateT y mo dd lead ++ tT h mi s f)).size ≤ 40 := by
              rw [strOfNums_size] at hsL hs1 hs2 hs3 ⊢
              simp [dateT]
              have : (tT h mi s f).length ≤ 1 := by unfold tT; split <;> simp
              omega
            clear hsL hs1 hs2 hs3 HTB
            have HW : Hid (wholeT y mo dd h mi s f lead = (dateT y mo dd lead ++ tT h mi s f) ++ compT h 72 lead ++ compT mi 77 lead ++ secT s f lead) := rfl
            generalize dateT y mo dd lead ++ tT h mi s f = TT at *
            go_wp2_with fail
            refine (acomp h 72 lead _ (by omega) (by omega)).mono ?_
            rintro e w4 ⟨rfl, hb4⟩
            have hs4 := str_le (comp_le h 72 lead (by omega) (by omega))
            go_wp2_with fail
            refine (acomp mi 77 lead _ (by omega) (by omega)).mono ?_
            rintro e w5 ⟨rfl, hb5⟩
            have hs5 := str_le (comp_le mi 77 lead (by omega) (by omega))
            have HB5 : Below w.heap.size w w5 := HB3.trans ((hb4.mono HB3.size).trans (hb5.mono (Nat.le_trans HB3.size hb4.size)))
            clear hb4 hb5 HB3
            generalize compT h 72 lead = C4 at *
            generalize compT mi 77 lead = C5 at *
            have q3 := Q3.out
            have q3' : Hid (¬ (s = 0 ∧ f = 0)) := q3
            go_upto_region 22 with fail
            go_cut [117] (fun c wx => c = .bool true ∧ w5 = wx)
            case first =>
              by_cases q4 : s = 0
              · have c3 : (s != 0) = false := by simp [q4]
                have c4 : (f != 0) = true := by simp; intro q5; exact q3 ⟨q4, q5⟩
                clear q3 q4
                go_wp2
                go_meet
                exact ⟨rfl, rfl⟩
              · have c3 : (s != 0) = true := by simp [q4]
                clear q3 q4
                go_wp2
                go_meet
                exact ⟨rfl, rfl⟩
            case rest =>
              obtain ⟨rfl, rfl⟩ := hcut
              clear q3
              have hb : ∃ b : Bool, b = decide (s < 0 ∨ f < 0) := ⟨_, rfl⟩
              obtain ⟨neg, hneg⟩ := hb
              have HNEG : Hid (neg = decide (s < 0 ∨ f < 0)) := hneg
              clear hneg
              go_upto_region 23 with fail
              go_cut [123] (fun c wx => c = .bool neg ∧ w5 = wx)
              case first =>
                by_cases q1 : s < 0
                · have HF : Hid (neg = true) := by show _ = _; rw [HNEG.out]; simp [q1]
                  go_wp2
                  go_meet
                  exact ⟨by rw [HF.out], rfl⟩
                · by_cases q2 : f < 0
                  · have HF : Hid (neg = true) := by show _ = _; rw [HNEG.out]; simp [q2]
                    go_wp2
                    go_meet
                    exact ⟨by rw [HF.out], rfl⟩
                  · have HF : Hid (neg = false) := by show _ = _; rw [HNEG.out]; simp; omega
                    go_wp2
                    go_meet
                    exact ⟨by rw [HF.out], rfl⟩
              case rest =>
                obtain ⟨rfl, rfl⟩ := hcut
                go_upto_if 123 with fail
                go_cut [11, 12, 15] (fun a b v wx => a = .int .i64 s.natAbs ∧ b = .int .i64 f.natAbs ∧ v = .string (strOfNums (TT ++ C4 ++ C5 ++ (if (s < 0 ∨ f < 0) ∧ lead = false then [45] else []))) ∧ w5 = wx)
                case first =>
                  rcases neg with _ | _
                  · have hng := of_decide_eq_false HNEG.out.symm
                    have HA : Hid ((s.natAbs : Int) = s ∧ (f.natAbs : Int) = f) := by constructor <;> omega
                    have HF : Hid ((if (s < 0 ∨ f < 0) ∧ lead = false then [45] else []) = ([] : List Int)) := by show _ = _; rw [if_neg (fun hh => hng hh.1)]
                    clear hng
                    go_wp2
                    go_meet
                    exact ⟨by rw [HA.out.1], by rw [HA.out.2], by rw [HF.out, str_app, str_app, List.append_nil], rfl⟩
                  · have hng := of_decide_eq_true HNEG.out.symm
                    have HA : Hid ((s.natAbs : Int) = -s ∧ (f.natAbs : Int) = -f) := by constructor <;> omega
                    rcases lead with _ | _
                    · have HF : Hid ((if (s < 0 ∨ f < 0) ∧ false = false then [45] else []) = ([45] : List Int)) := by show _ = _; rw [if_pos ⟨hng, rfl⟩]
                      clear hng
                      go_wp2
                      go_meet
                      exact ⟨by rw [HA.out.1], by rw [HA.out.2], by rw [HF.out, show (⟨#[45]⟩ : ByteArray) = strOfNums [45] from rfl, str_app, str_app, str_app], rfl⟩
                    · have HF : Hid ((if (s < 0 ∨ f < 0) ∧ true = false then [45] else []) = ([] : List Int)) := by show _ = _; rw [if_neg (fun hh => by cases hh.2)]
                      clear hng
                      go_wp2
                      go_meet
                      exact ⟨by rw [HA.out.1], by rw [HA.out.2], by rw [HF.out, str_app, str_app, List.append_nil], rfl⟩
                case rest =>
                  obtain ⟨rfl, rfl, rfl, rfl⟩ := hcut
                  have hs6 : (strOfNums (TT ++ C4 ++ C5 ++ (if (s < 0 ∨ f < 0) ∧ lead = false then [45] else []))).size ≤ 80 := by
                    rw [strOfNums_size] at hsT hs4 hs5 ⊢
                    simp only [List.length_append]
                    split <;> simp <;> omega
                  have HW' : Hid (wholeT y mo dd h mi s f lead = (TT ++ C4 ++ C5 ++ (if (s < 0 ∨ f < 0) ∧ lead = false then [45] else [])) ++ dec s.natAbs ++ fracT f.natAbs ++ [83]) := by
                    show _ = _
                    rw [HW.out, secT, if_neg q3'.out]
                    simp
                  generalize (TT ++ C4 ++ C5 ++ (if (s < 0 ∨ f < 0) ∧ lead = false then [45] else [])) = T6 at *
                  have hsd : (strOfNums (dec s.natAbs)).size ≤ 9 := str_le (by rw [dec_length]; exact nd9 _ (by omega))
                  clear hsT hs4 hs5 HW HNEG
                  go_wp2_with fail
                  refine (adigits s.natAbs _ (by omega)).mono ?_
                  rintro e w6 ⟨rfl, hb6⟩
                  have HB6 : Below w.heap.size w w6 := HB5.trans (hb6.mono HB5.size)
                  clear hb6 HB5
                  by_cases q5 : f = 0
                  · have c5 : (((f.natAbs : Nat) : Int) != 0) = false := by simp [q5]
                    have HF : Hid (fracT f.natAbs = []) := by show _ = _; rw [q5]; rfl
                    clear q5
                    go_wp2
                    go_ret
                    refine ⟨congrArg (fun b => Ending.returned (.string b)) ?_, HB6⟩
                    rw [HW'.out, HF.out, show (⟨#[83]⟩ : ByteArray) = strOfNums [83] from rfl, str_app, str_app, List.append_nil]
                  · have c5 : (((f.natAbs : Nat) : Int) != 0) = true := by simp [q5]
                    have HF : Hid (fracT f.natAbs = 46 :: (d9 f.natAbs).take (cutK (d9 f.natAbs) 9)) := by show _ = _; rw [fracT, if_neg (by omega)]
                    have hfr := fun W => afrac f.natAbs W (by omega) (by omega)
                    have hsf9 : (strOfNums ((d9 f.natAbs).take (cutK (d9 f.natAbs) 9))).size ≤ 9 := str_le (by rw [List.length_take, d9_length]; omega)
                    generalize (d9 f.natAbs).take (cutK (d9 f.natAbs) 9) = D9 at *
                    clear q5
                    go_wp2_with fail
                    refine (hfr _).mono ?_
                    rintro e w7 ⟨rfl, hb7⟩
                    have HB7 : Below w.heap.size w w7 := HB6.trans (hb7.mono HB6.size)
                    clear hb7 HB6
                    go_wp2
                    go_ret
                    refine ⟨congrArg (fun b => Ending.returned (.string b)) ?_, HB7⟩
                    rw [HW'.out, HF.out, show (⟨#[83]⟩ : ByteArray) = strOfNums [83] from rfl, show (⟨#[46]⟩ : ByteArray) = strOfNums [46] from rfl, str_app, str_app, str_app, str_app]
                    simp

    
end Go.Proofs.YbulkdobsDoor
