/-
  S5751A: THE MODEL's TEXT: zzs5751amodel.
-/
import Derived.Test.YbulkdobsDoorModelA
import Derived.Deep.DeepCutAuto
namespace Go.Proofs.YbulkdobsDoor
open Go.RowKit

def fracT (f : Int) : List Int := if f = 0 then [] else 46 :: (d9 f).take (cutK (d9 f) 9)
def secT (s f : Int) (lead : Bool) : List Int := if s = 0 ∧ f = 0 then [] else (if (s < 0 ∨ f < 0) ∧ lead = false then [45] else []) ++ dec s.natAbs ++ fracT f.natAbs ++ [83]
def leadT (lead : Bool) : List Int := if lead then [45] else []
def tT (h mi s f : Int) : List Int := if h ≠ 0 ∨ mi ≠ 0 ∨ s ≠ 0 ∨ f ≠ 0 then [84] else []
def dateT (y mo dd : Int) (lead : Bool) : List Int := leadT lead ++ [80] ++ compT y 89 lead ++ compT mo 77 lead ++ compT dd 68 lead
def wholeT (y mo dd h mi s f : Int) (lead : Bool) : List Int := dateT y mo dd lead ++ tT h mi s f ++ compT h 72 lead ++ compT mi 77 lead ++ secT s f lead

theorem w64 (n : Int) (h : -9223372036854775808 ≤ n ∧ n ≤ 9223372036854775807) : wrap64 n = n := by unfold wrap64; omega
theorem comp_le (v x : Int) (lead : Bool) (h0 : -1000000000 < v) (h9 : v < 1000000000) : (compT v x lead).length ≤ 11 := by
  have := nd9 v.natAbs (by omega)
  unfold compT
  split
  · simp
  · split <;> simp [dec_length] <;> omega
theorem str_le {T : List Int} {n : Nat} (h : T.length ≤ n) : (strOfNums T).size ≤ n := by rw [strOfNums_size]; exact h

set_option maxRecDepth 100000 in
set_option maxHeartbeats 4000000 in
theorem amodel_none (m dd n : Int) (lead : Bool) (w : World) (hnz : ¬ (m = 0 ∧ dd = 0 ∧ n = 0)) (hm : -12000000000 < m ∧ m < 12000000000) (hn : -86400000000000 < n ∧ n < 86400000000000) (y mo h mi s f : Int)
    (ey : m.tdiv 12 = y) (emo : m.tmod 12 = mo) (eh : n.tdiv 3600000000000 = h) (emi : (n.tmod 3600000000000).tdiv 60000000000 = mi) (es : (n.tmod 60000000000).tdiv 1000000000 = s) (ef : n.tmod 1000000000 = f)
    (by_ : -1000000000 < y ∧ y < 1000000000) (bmo : -12 < mo ∧ mo < 12) (bd : -1000000000 < dd ∧ dd < 1000000000) (bh : -24 < h ∧ h < 24) (bmi : -60 < mi ∧ mi < 60) (bs : -60 < s ∧ s < 60)
    (hlead : (y > 0 ∨ mo > 0 ∨ dd > 0 ∨ h > 0 ∨ mi > 0 ∨ s > 0 ∨ f > 0) ↔ lead = false) (q3 : s = 0 ∧ f = 0) :
    Calls Ybad.prog 7 #[.int .i64 m, .int .i64 dd, .int .i64 n] w fun e w' => e = .returned (.string (strOfNums (wholeT y mo dd h mi s f lead))) ∧ Below w.heap.size w w' := by
  have Q3 : Hid (s = 0 ∧ f = 0) := q3
  clear q3
  have EY : Hid (m.tdiv 12 = y) := ey
  have EMO : Hid (m.tmod 12 = mo) := emo
  have EH : Hid (n.tdiv 3600000000000 = h) := eh
  have EMI : Hid ((n.tmod 3600000000000).tdiv 60000000000 = mi) := emi
  have ES : Hid ((n.tmod 60000000000).tdiv 1000000000 = s) := es
  have EF : Hid (n.tmod 1000000000 = f) := ef
  clear ey emo eh emi es ef
  have HL : Hid ((y > 0 ∨ mo > 0 ∨ dd > 0 ∨ h > 0 ∨ mi > 0 ∨ s > 0 ∨ f > 0) ↔ lead = false) := hlead
  have HNZ : Hid (¬ (m = 0 ∧ dd = 0 ∧ n = 0)) := hnz
  clear hlead hnz
  go_enter Ybad.func7, Ybad.ntmps7
  go_upto_region 1 with fail
  go_cut [25] (fun c wx => c = .bool false ∧ w = wx)
  case first =>
    by_cases h1 : m = 0
    · have b1 : (m == 0) = true := by simp [h1]
      clear h1
      by_cases h2 : dd = 0
      · have b2 : (dd == 0) = true := by simp [h2]
        have b3 : (n == 0) = false := by
          simp at b1
          have := HNZ.out
          simp; intro h3; exact this ⟨b1, h2, h3⟩
        clear h2
        go_wp2
        go_meet
        exact ⟨rfl, rfl⟩
      · have b2 : (dd == 0) = false := by simp [h2]
        clear h2
        go_wp2
        go_meet
        exact ⟨rfl, rfl⟩
    · have b1 : (m == 0) = false := by simp [h1]
      clear h1
      go_wp2
      go_meet
      exact ⟨rfl, rfl⟩
  case rest =>
    obtain ⟨rfl, rfl⟩ := hcut
    clear HNZ
    have hwm := w64 ((n.tmod 3600000000000).tdiv 60000000000) (by rw [EMI.out]; omega)
    have hws := w64 ((n.tmod 60000000000).tdiv 1000000000) (by rw [ES.out]; omega)
    go_upto_region 9 with fail
    go_cut [7, 8, 9, 10, 11, 12, 13] (fun a1 a2 a3 a4 a5 a6 c wx => a1 = .int .i64 y ∧ a2 = .int .i64 mo ∧ a3 = .int .i64 h ∧ a4 = .int .i64 mi ∧ a5 = .int .i64 s ∧ a6 = .int .i64 f ∧ c = .bool (!lead) ∧ w = wx)
    case first =>
      by_cases p0 : m.tdiv 12 > 0
      · have hF : (!lead) = true := by rw [HL.out.1 (.inl (by first | exact p0 | (rw [← EY.out]; exact p0) | (rw [← EMO.out]; exact p0) | (rw [← EH.out]; exact p0) | (rw [← EMI.out]; exact p0) | (rw [← ES.out]; exact p0) | (rw [← EF.out]; exact p0)))]; rfl
        go_wp2
        go_meet
        exact ⟨by rw [EY.out], by rw [EMO.out], by rw [EH.out], by first | (rw [EMI.out]; done) | rw [hwm, EMI.out], by first | (rw [ES.out]; done) | rw [hws, ES.out], by rw [EF.out], by rw [hF], rfl⟩
      · skip
        by_cases p1 : m.tmod 12 > 0
        · have hF : (!lead) = true := by rw [HL.out.1 (.inr (.inl (by first | exact p1 | (rw [← EY.out]; exact p1) | (rw [← EMO.out]; exact p1) | (rw [← EH.out]; exact p1) | (rw [← EMI.out]; exact p1) | (rw [← ES.out]; exact p1) | (rw [← EF.out]; exact p1))))]; rfl
          go_wp2
          go_meet
          exact ⟨by rw [EY.out], by rw [EMO.out], by rw [EH.out], by first | (rw [EMI.out]; done) | rw [hwm, EMI.out], by first | (rw [ES.out]; done) | rw [hws, ES.out], by rw [EF.out], by rw [hF], rfl⟩
        · skip
          by_cases p2 : dd > 0
          · have hF : (!lead) = true := by rw [HL.out.1 (.inr (.inr (.inl (by first | exact p2 | (rw [← EY.out]; exact p2) | (rw [← EMO.out]; exact p2) | (rw [← EH.out]; exact p2) | (rw [← EMI.out]; exact p2) | (rw [← ES.out]; exact p2) | (rw [← EF.out]; exact p2)))))]; rfl
            go_wp2
            go_meet
            exact ⟨by rw [EY.out], by rw [EMO.out], by rw [EH.out], by first | (rw [EMI.out]; done) | rw [hwm, EMI.out], by first | (rw [ES.out]; done) | rw [hws, ES.out], by rw [EF.out], by rw [hF], rfl⟩
          · skip
            by_cases p3 : n.tdiv 3600000000000 > 0
            · have hF : (!lead) = true := by rw [HL.out.1 (.inr (.inr (.inr (.inl (by first | exact p3 | (rw [← EY.out]; exact p3) | (rw [← EMO.out]; exact p3) | (rw [← EH.out]; exact p3) | (rw [← EMI.out]; exact p3) | (rw [← ES.out]; exact p3) | (rw [← EF.out]; exact p3))))))]; rfl
              go_wp2
              go_meet
              exact ⟨by rw [EY.out], by rw [EMO.out], by rw [EH.out], by first | (rw [EMI.out]; done) | rw [hwm, EMI.out], by first | (rw [ES.out]; done) | rw [hws, ES.out], by rw [EF.out], by rw [hF], rfl⟩
            · skip
              by_cases p4 : (n.tmod 3600000000000).tdiv 60000000000 > 0
              · have hF : (!lead) = true := by rw [HL.out.1 (.inr (.inr (.inr (.inr (.inl (by first | exact p4 | (rw [← EY.out]; exact p4) | (rw [← EMO.out]; exact p4) | (rw [← EH.out]; exact p4) | (rw [← EMI.out]; exact p4) | (rw [← ES.out]; exact p4) | (rw [← EF.out]; exact p4)))))))]; rfl
                go_wp2
                go_meet
                exact ⟨by rw [EY.out], by rw [EMO.out], by rw [EH.out], by first | (rw [EMI.out]; done) | rw [hwm, EMI.out], by first | (rw [ES.out]; done) | rw [hws, ES.out], by rw [EF.out], by rw [hF], rfl⟩
              · skip
                by_cases p5 : (n.tmod 60000000000).tdiv 1000000000 > 0
                · have hF : (!lead) = true := by rw [HL.out.1 (.inr (.inr (.inr (.inr (.inr (.inl (by first | exact p5 | (rw [← EY.out]; exact p5) | (rw [← EMO.out]; exact p5) | (rw [← EH.out]; exact p5) | (rw [← EMI.out]; exact p5) | (rw [← ES.out]; exact p5) | (rw [← EF.out]; exact p5))))))))]; rfl
                  go_wp2
                  go_meet
                  exact ⟨by rw [EY.out], by rw [EMO.out], by rw [EH.out], by first | (rw [EMI.out]; done) | rw [hwm, EMI.out], by first | (rw [ES.out]; done) | rw [hws, ES.out], by rw [EF.out], by rw [hF], rfl⟩
                · skip
                  by_cases p6 : n.tmod 1000000000 > 0
                  · have hF : (!lead) = true := by rw [HL.out.1 (.inr (.inr (.inr (.inr (.inr (.inr ((by first | exact p6 | (rw [← EY.out]; exact p6) | (rw [← EMO.out]; exact p6) | (rw [← EH.out]; exact p6) | (rw [← EMI.out]; exact p6) | (rw [← ES.out]; exact p6) | (rw [← EF.out]; exact p6)))))))))]; rfl
                    go_wp2
                    go_meet
                    exact ⟨by rw [EY.out], by rw [EMO.out], by rw [EH.out], by first | (rw [EMI.out]; done) | rw [hwm, EMI.out], by first | (rw [ES.out]; done) | rw [hws, ES.out], by rw [EF.out], by rw [hF], rfl⟩
                  · skip
                    have hF : (!lead) = false := by
                      rcases lead with _ | _
                      · have := HL.out.2 rfl
                        rw [← EY.out, ← EMO.out, ← EH.out, ← EMI.out, ← ES.out, ← EF.out] at this
                        omega
                      · rfl
                    go_wp2
                    go_meet
                    exact ⟨by rw [EY.out], by rw [EMO.out], by rw [EH.out], by first | (rw [EMI.out]; done) | rw [hwm, EMI.out], by first | (rw [ES.out]; done) | rw [hws, ES.out], by rw [EF.out], by rw [hF], rfl⟩
    case rest =>
      obtain ⟨rfl, rfl, rfl, rfl, rfl, rfl, rfl, rfl⟩ := hcut
      clear EY EMO EH EMI ES EF hwm hws
      go_upto_if 68 with fail
      go_cut [15] (fun v wx => v = .string (strOfNums (leadT lead)) ∧ w = wx)
      case first =>
        rcases lead with _ | _
        · go_wp2
          go_meet
          exact ⟨rfl, rfl⟩
        · go_wp2
          go_meet
          exact ⟨rfl, rfl⟩
      case rest =>
        obtain ⟨rfl, rfl⟩ := hcut
        have hsL : (strOfNums (leadT lead)).size ≤ 1 := str_le (by cases lead <;> simp [leadT])
        go_wp2_with fail
        refine (acomp y 89 lead _ by_.1 by_.2).mono ?_
        rintro e w1 ⟨rfl, hb1⟩
        have hs1 := str_le (comp_le y 89 lead by_.1 by_.2)
        go_wp2_with fail
        refine (acomp mo 77 lead _ (by omega) (by omega)).mono ?_
        rintro e w2 ⟨rfl, hb2⟩
        have hs2 := str_le (comp_le mo 77 lead (by omega) (by omega))
        go_wp2_with fail
        refine (acomp dd 68 lead _ bd.1 bd.2).mono ?_
        rintro e w3 ⟨rfl, hb3⟩
        have hs3 := str_le (comp_le dd 68 lead bd.1 bd.2)
        have HB3 : Below w.heap.size w w3 := hb1.trans ((hb2.mono hb1.size).trans (hb3.mono (Nat.le_trans hb1.size hb2.size)))
        clear hb1 hb2 hb3
        have hb : ∃ tb : Bool, tb = decide (h ≠ 0 ∨ mi ≠ 0 ∨ s ≠ 0 ∨ f ≠ 0) := ⟨_, rfl⟩
        obtain ⟨tb, htb⟩ := hb
        have HTB : Hid (tb = decide (h ≠ 0 ∨ mi ≠ 0 ∨ s ≠ 0 ∨ f ≠ 0)) := htb
        clear htb
        go_upto_region 18 with fail
        go_cut [99] (fun c wx => c = .bool tb ∧ w3 = wx)
        case first =>
          by_cases q1 : h = 0
          · have c1 : (h != 0) = false := by simp [q1]
            have d1 := q1
            clear q1
            by_cases q2 : mi = 0
            · have c2 : (mi != 0) = false := by simp [q2]
              by_cases q3 : s = 0
              · have c3 : (s != 0) = false := by simp [q3]
                by_cases q4 : f = 0
                · have c4 : (f != 0) = false := by simp [q4]
                  have HF : Hid (tb = false) := by show _ = _; rw [HTB.out]; simp [d1, q2, q3, q4]
                  clear q2 q3 q4 d1
                  go_wp2
                  go_meet
                  exact ⟨by rw [HF.out], rfl⟩
                · have c4 : (f != 0) = true := by simp [q4]
                  have HF : Hid (tb = true) := by show _ = _; rw [HTB.out]; simp [q4]
                  clear q2 q3 q4 d1
                  go_wp2
                  go_meet
                  exact ⟨by rw [HF.out], rfl⟩
              · have c3 : (s != 0) = true := by simp [q3]
                have HF : Hid (tb = true) := by show _ = _; rw [HTB.out]; simp [q3]
                clear q2 q3 d1
                go_wp2
                go_meet
                exact ⟨by rw [HF.out], rfl⟩
            · have c2 : (mi != 0) = true := by simp [q2]
              have HF : Hid (tb = true) := by show _ = _; rw [HTB.out]; simp [q2]
              clear q2 d1
              go_wp2
              go_meet
              exact ⟨by rw [HF.out], rfl⟩
          · have c1 : (h != 0) = true := by simp [q1]
            have HF : Hid (tb = true) := by show _ = _; rw [HTB.out]; simp [q1]
            clear q1
            go_wp2
            go_meet
            exact ⟨by rw [HF.out], rfl⟩
        case rest =>
          obtain ⟨rfl, rfl⟩ := hcut
          go_upto_if 99 with fail
          go_cut [15] (fun v wx => v = .string (strOfNums (dateT y mo dd lead ++ tT h mi s f)) ∧ w3 = wx)
          case first =>
            rcases tb with _ | _
            · have HF : Hid (tT h mi s f = []) := by show _ = _; rw [tT, if_neg (of_decide_eq_false HTB.out.symm)]
              go_wp2
              go_meet
              refine ⟨?_, rfl⟩
              rw [HF.out, show (⟨#[80]⟩ : ByteArray) = strOfNums [80] from rfl, str_app, str_app, str_app, str_app, List.append_nil]
              rfl
            · have HF : Hid (tT h mi s f = [84]) := by show _ = _; rw [tT, if_pos (of_decide_eq_true HTB.out.symm)]
              go_wp2
              go_meet
              refine ⟨?_, rfl⟩
              rw [HF.out, show (⟨#[80]⟩ : ByteArray) = strOfNums [80] from rfl, show (⟨#[84]⟩ : ByteArray) = strOfNums [84] from rfl, str_app, str_app, str_app, str_app, str_app]
              rfl
          case rest =>
            obtain ⟨rfl, rfl⟩ := hcut
            have hsT : (strOfNums (dateT y mo dd lead ++ tT h mi s f)).size ≤ 40 := by
              rw [strOfNums_size] at hsL hs1 hs2 hs3 ⊢
              simp [dateT]
              have : (tT h mi s f).length ≤ 1 := by unfold tT; split <;> simp
              omega
            clear hsL hs1 hs2 hs3 HTB
            have HW : Hid (wholeT y mo dd h mi s f lead = (dateT y mo dd lead ++ tT h mi s f) ++ compT h 72 lead ++ compT mi 77 lead ++ secT s f lead) := rfl
            generalize dateT y mo dd lead ++ tT h mi s f = TT at *
            go_wp2_with fail
            refine (acomp h 72 lead _ (by omega) (by omega)).mono ?_
            rintro e w4 ⟨rfl, hb4⟩
            have hs4 := str_le (comp_le h 72 lead (by omega) (by omega))
            go_wp2_with fail
            refine (acomp mi 77 lead _ (by omega) (by omega)).mono ?_
            rintro e w5 ⟨rfl, hb5⟩
            have hs5 := str_le (comp_le mi 77 lead (by omega) (by omega))
            have HB5 : Below w.heap.size w w5 := HB3.trans ((hb4.mono HB3.size).trans (hb5.mono (Nat.le_trans HB3.size hb4.size)))
            clear hb4 hb5 HB3
            generalize compT h 72 lead = C4 at *
            generalize compT mi 77 lead = C5 at *
            have q3 := Q3.out
            have c3 : (s != 0) = false := by simp [q3.1]
            have c4 : (f != 0) = false := by simp [q3.2]
            have HF : Hid (secT s f lead = []) := by show _ = _; rw [secT, if_pos q3]
            clear q3
            go_wp2
            go_ret
            refine ⟨congrArg (fun b => Ending.returned (.string b)) ?_, HB5⟩
            rw [HW.out, HF.out, str_app, str_app, List.append_nil]
  
end Go.Proofs.YbulkdobsDoor
