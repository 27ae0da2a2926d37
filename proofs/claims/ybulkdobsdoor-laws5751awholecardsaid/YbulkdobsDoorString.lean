/-
  S5751C: THE WALKS OF DateTime's OWN TEXT: clock, appendDate, appendText, String.
-/
import Derived.Test.YbulkdobsDoorModel
import Derived.Deep.RegionWith
import Derived.Deep.RegionHeld3
namespace Go.Proofs.YbulkdobsDoor
open Go.RowKit

theorem Txt.below {w w' : World} {g : Nat} {t : TypeId} {C : Nat} {T : List Int} (h : Txt w g t C T) (hb : Below w.heap.size w w') : Txt w' g t C T := by
  obtain ⟨L, h1, h2, h3, h4⟩ := h
  exact ⟨L, h1.of_block (hb.block g h1.lt), h2, h3, h4⟩
theorem Kept1.of_below {w w' : World} (g : Nat) (hb : Below w.heap.size w w') : Kept1 g w w' := ⟨hb.os, hb.tape, hb.output, hb.size, fun k hk _ => hb.block k hk⟩

set_option maxRecDepth 100000 in
theorem clock_any (days n : Int) (h0 : 0 ≤ n) (h1 : n < 86400000000000) (w : World) :
    Calls Ybad.prog 22 #[.agg #[.int .i64 days, .int .i64 n]] w fun e w' => e = .returned (.tuple #[.int .i64 (n / 3600000000000), .int .i64 (n / 60000000000 % 60), .int .i64 (n / 1000000000 % 60), .int .i64 (n % 1000000000)]) ∧ Below w.heap.size w w' := by
  go_enter Ybad.func22, Ybad.ntmps22
  go_wp2
  go_quiet (fail)
  go_wp2
  exact bodyPost_ret (v := .tuple #[.int .i64 (n / 3600000000000), .int .i64 (n / 60000000000 % 60), .int .i64 (n / 1000000000 % 60), .int .i64 (n % 1000000000)]) (by simp [results, Ybad.results22, go_sem]) rfl ⟨rfl, below_drewN ((Below.refl _ _).alloc (Nat.le_refl _) _) _⟩

def two (x : Int) : List Int := [48 + x / 10, 48 + x % 10]
def dText (y m d : Int) : List Int := two (y / 100) ++ two (y % 100) ++ [45] ++ two m ++ [45] ++ two d

theorem day_bd (n c q o m : Int) (F : Cal.Found n c q o m) : 1 ≤ o - Cal.dbm q m + 1 ∧ o - Cal.dbm q m + 1 ≤ 31 := by
  obtain ⟨v1, v2, v3, v4, v5, v6, v7, v8, v9, v10, v11, v12, v13⟩ := Cal.mst_vals
  have hlo := F.lo
  have hhi := F.hi
  have h0 := F.o1
  rw [Cal.dby_len _ ⟨F.q0, F.q1⟩] at h0
  have h12 := F.m12
  have h1 := F.m1
  unfold Cal.dbm at *
  cases hl : Cal.leapB q <;> rw [hl] at hlo hhi h0 <;>
  rcases Cal.twelve m h1 h12 with rfl | rfl | rfl | rfl | rfl | rfl | rfl | rfl | rfl | rfl | rfl | rfl <;> simp [v1, v2, v3, v4, v5, v6, v7, v8, v9, v10, v11, v12] at hlo hhi h0 ⊢ <;> omega
theorem year_bd (n c q o m : Int) (F : Cal.Found n c q o m) (h1 : n < 3652425) : 0 ≤ 400 * c + q ∧ 400 * c + q ≤ 9999 := by
  have h0 := F.day
  have := F.c0
  have := F.q0
  have := F.q1
  have := F.o0
  have := dby_bd q F.q0 (by omega)
  omega

set_option maxRecDepth 100000 in
set_option maxHeartbeats 1000000 in
theorem date_any (g n C : Nat) (t : TypeId) (T : List Int) (days nanos : Int) (w : World) (h0 : 0 ≤ days) (h1 : days < 3652425) (hms : ∀ i, i < 13 → w.cell? ⟨1, i, none⟩ = some (.int .i64 (Cal.ml.getD i 0)))
    (hT : Txt w g t C T) (hn : T.length = n) (hroom : n + 10 ≤ C) :
    Calls Ybad.prog 24 #[.agg #[.int .i64 days, .int .i64 nanos], .slice (some ⟨g, 0, none⟩) n C] w fun e w' =>
      ∃ c q o m : Int, Cal.Found days c q o m ∧ e = .returned (.slice (some ⟨g, 0, none⟩) (n + 10) C) ∧ Txt w' g t C (T ++ dText (400 * c + q) m (o - Cal.dbm q m + 1)) ∧ Kept1 g w w' := by
  have HN : Hid (T.length = n) := hn
  have HMS : Hid (∀ i, i < 13 → w.cell? ⟨1, i, none⟩ = some (.int .i64 (Cal.ml.getD i 0))) := hms
  clear hn hms
  go_enter Ybad.func24, Ybad.ntmps24
  go_wp2_with fail
  refine (civil_any days h0 h1 _ (fun i hi => cell_later ((Below.refl _ _).alloc (Nat.le_refl _) _) (HMS.out i hi))).mono ?_
  rintro e w' ⟨c, q, o, m, F, rfl, rfl⟩
  have hd := day_bd days c q o m F
  have hy := year_bd days c q o m F h1
  have hm : 1 ≤ m ∧ m ≤ 12 := ⟨F.m1, F.m12⟩
  have hT0 := hT.alloc (Obj.cells #[Value.int .i64 days, Value.int .i64 nanos] 30)
  have hK0 := (Kept1.refl g w).alloc (Obj.cells #[Value.int .i64 days, Value.int .i64 nanos] 30)
  have HF : Hid (Cal.Found days c q o m) := F
  generalize hyq : 400 * c + q = y at *
  generalize hdq : o - Cal.dbm q m + 1 = d at *
  have HY : Hid (400 * c + q = y) := hyq
  have HD : Hid (o - Cal.dbm q m + 1 = d) := hdq
  clear F hyq hdq hT
  go_wp2_with fail
  refine (digits2 g (n) C t _ (y / 100) _ (by omega) (by omega) hT0 (by simp [HN.out]) (by omega)).mono ?_
  rintro e w1 ⟨rfl, hT1, hk1⟩
  have hK1 := hK0.trans hk1
  clear hT0 hK0 hk1
  go_wp2_with fail
  refine (digits2 g (n + 2) C t _ (y % 100) _ (by omega) (by omega) hT1 (by simp [HN.out]) (by omega)).mono ?_
  rintro e w2 ⟨rfl, hT2, hk2⟩
  have hK2 := hK1.trans hk2
  clear hT1 hK1 hk2
  go_wp2_with (at_builtin; refine wpList_append_txt rfl _ _ rfl g (n + 2 + 2) C t _ [45] rfl (hT2.alloc _) (by simp [HN.out]) w2.heap.size 0 1 1 rfl rfl (new_one w2 5 _) (by omega) ?_)
  intro w3 hT3 hk3
  have hK3 := (hK2.alloc _).trans hk3
  clear hT2 hK2 hk3
  go_wp2_with fail
  refine (digits2 g (n + 2 + 2 + 1) C t _ m _ (by omega) (by omega) hT3 (by simp [HN.out]) (by omega)).mono ?_
  rintro e w4 ⟨rfl, hT4, hk4⟩
  have hK4 := hK3.trans hk4
  clear hT3 hK3 hk4
  go_wp2_with (at_builtin; refine wpList_append_txt rfl _ _ rfl g (n + 2 + 2 + 1 + 2) C t _ [45] rfl (hT4.alloc _) (by simp [HN.out]) w4.heap.size 0 1 1 rfl rfl (new_one w4 5 _) (by omega) ?_)
  intro w5 hT5 hk5
  have hK5 := (hK4.alloc _).trans hk5
  clear hT4 hK4 hk5
  go_wp2_with fail
  refine (digits2 g (n + 2 + 2 + 1 + 2 + 1) C t _ d _ (by omega) (by omega) hT5 (by simp [HN.out]) (by omega)).mono ?_
  rintro e w6 ⟨rfl, hT6, hk6⟩
  have hK6 := hK5.trans hk6
  clear hT5 hK5 hk6
  go_wp2
  go_ret
  refine ⟨c, q, o, m, HF.out, rfl, ?_, hK6⟩
  rw [HY.out, HD.out]
  simpa [dText, two] using hT6

def sFrac (f : Int) : List Int := if f = 0 then [] else 46 :: (d9 f).take (cutK (d9 f) 9)
def sText (y m d nanos : Int) : List Int := dText y m d ++ [84] ++ two (nanos / 3600000000000) ++ [58] ++ two (nanos / 60000000000 % 60) ++ [58] ++ two (nanos / 1000000000 % 60) ++ sFrac (nanos % 1000000000)

set_option maxRecDepth 100000 in
set_option maxHeartbeats 1000000 in
theorem text_any (g n C : Nat) (t : TypeId) (T : List Int) (days nanos : Int) (w : World) (h0 : 0 ≤ days) (h1 : days < 3652425) (hn0 : 0 ≤ nanos) (hn1 : nanos < 86400000000000) (hms : ∀ i, i < 13 → w.cell? ⟨1, i, none⟩ = some (.int .i64 (Cal.ml.getD i 0)))
    (hT : Txt w g t C T) (hn : T.length = n) (hroom : n + 29 ≤ C) (hCm : C ≤ 1000) :
    Calls Ybad.prog 14 #[.agg #[.int .i64 days, .int .i64 nanos], .slice (some ⟨g, 0, none⟩) n C] w fun e w' =>
      ∃ c q o m : Int, ∃ L : Nat, Cal.Found days c q o m ∧ e = .returned (.slice (some ⟨g, 0, none⟩) L C) ∧ (T ++ sText (400 * c + q) m (o - Cal.dbm q m + 1) nanos).length = L ∧ Txt w' g t C (T ++ sText (400 * c + q) m (o - Cal.dbm q m + 1) nanos) ∧ Kept1 g w w' := by
  have HN0 : Hid (T.length = n) := hn
  have HMS : Hid (∀ i, i < 13 → w.cell? ⟨1, i, none⟩ = some (.int .i64 (Cal.ml.getD i 0))) := hms
  clear hn hms
  go_enter Ybad.func14, Ybad.ntmps14
  go_wp2_with fail
  refine (clock_any days nanos hn0 hn1 _).mono ?_
  rintro e wc ⟨rfl, hbc⟩
  have hb0 : Below w.heap.size w wc := ((Below.refl _ _).alloc (Nat.le_refl _) _).trans (hbc.mono (by simp))
  have hbox : wc.cell? ⟨w.heap.size, 0, none⟩ = some (.int .i64 days) := cell_later hbc (by simp)
  have hbox1 : wc.cell? ⟨w.heap.size, 1, none⟩ = some (.int .i64 nanos) := cell_later hbc (by simp)
  have HMS1 : Hid (∀ i, i < 13 → wc.cell? ⟨1, i, none⟩ = some (.int .i64 (Cal.ml.getD i 0))) := fun i hi => cell_later hb0 (HMS.out i hi)
  have hTc := hT.below hb0
  clear hbc hT HMS
  go_wp2_with fail
  refine (date_any g n C t T days nanos _ h0 h1 HMS1.out hTc HN0.out (by omega)).mono ?_
  rintro e w0 ⟨c, q, o, m, F, rfl, hT0', hk0⟩
  have hK0 := (Kept1.of_below g hb0).trans hk0
  have HF : Hid (Cal.Found days c q o m) := F
  obtain ⟨S, hS, hT0⟩ : ∃ S, S = T ++ dText (400 * c + q) m (o - Cal.dbm q m + 1) ∧ Txt w0 g t C S := ⟨_, rfl, hT0'⟩
  have HN : Hid (S.length = n + 10) := by show _ = _; rw [hS]; simp [dText, two, HN0.out]
  have HS : Hid (S = T ++ dText (400 * c + q) m (o - Cal.dbm q m + 1)) := hS
  clear F hTc hk0 hb0 hT0' hS HMS1 hbox hbox1
  go_wp2_with (at_builtin; refine wpList_append_txt rfl _ _ rfl g (n + 10) C t _ [84] rfl (hT0.alloc _) (by simp [HN.out]) w0.heap.size 0 1 1 rfl rfl (new_one w0 5 _) (by omega) ?_)
  intro w1 hT1 hk1
  have hK1 := (hK0.alloc _).trans hk1
  clear hT0 hK0 hk1
  go_wp2_with fail
  refine (digits2 g (n + 10 + 1) C t _ (nanos / 3600000000000) _ (by omega) (by omega) hT1 (by simp [HN.out]) (by omega)).mono ?_
  rintro e w2 ⟨rfl, hT2, hk2⟩
  have hK2 := hK1.trans hk2
  clear hT1 hK1 hk2
  go_wp2_with (at_builtin; refine wpList_append_txt rfl _ _ rfl g (n + 10 + 1 + 2) C t _ [58] rfl (hT2.alloc _) (by simp [HN.out]) w2.heap.size 0 1 1 rfl rfl (new_one w2 5 _) (by omega) ?_)
  intro w3 hT3 hk3
  have hK3 := (hK2.alloc _).trans hk3
  clear hT2 hK2 hk3
  go_wp2_with fail
  refine (digits2 g (n + 10 + 1 + 2 + 1) C t _ (nanos / 60000000000 % 60) _ (by omega) (by omega) hT3 (by simp [HN.out]) (by omega)).mono ?_
  rintro e w4 ⟨rfl, hT4, hk4⟩
  have hK4 := hK3.trans hk4
  clear hT3 hK3 hk4
  go_wp2_with (at_builtin; refine wpList_append_txt rfl _ _ rfl g (n + 10 + 1 + 2 + 1 + 2) C t _ [58] rfl (hT4.alloc _) (by simp [HN.out]) w4.heap.size 0 1 1 rfl rfl (new_one w4 5 _) (by omega) ?_)
  intro w5 hT5 hk5
  have hK5 := (hK4.alloc _).trans hk5
  clear hT4 hK4 hk5
  go_wp2_with fail
  refine (digits2 g (n + 10 + 1 + 2 + 1 + 2 + 1) C t _ (nanos / 1000000000 % 60) _ (by omega) (by omega) hT5 (by simp [HN.out]) (by omega)).mono ?_
  rintro e w6 ⟨rfl, hT6, hk6⟩
  have hK6 := hK5.trans hk6
  clear hT5 hK5 hk6
  have hfb : 0 ≤ nanos % 1000000000 ∧ nanos % 1000000000 ≤ 999999999 := by omega
  go_wp2_with fail
  generalize hfq : nanos % 1000000000 = f at *
  have HFQ : Hid (nanos % 1000000000 = f) := hfq
  clear hfq
  by_cases hf0 : f = 0
  · have E1 : Hid (sText (400 * c + q) m (o - Cal.dbm q m + 1) nanos = dText (400 * c + q) m (o - Cal.dbm q m + 1) ++ [84] ++ two (nanos / 3600000000000) ++ [58] ++ two (nanos / 60000000000 % 60) ++ [58] ++ two (nanos / 1000000000 % 60)) := by
      show _ = _
      unfold sText
      rw [HFQ.out, sFrac, if_pos hf0, List.append_nil]
    subst hf0
    refine (frac0 _ _).mono ?_
    rintro e wf ⟨rfl, rfl⟩
    go_wp2
    go_ret
    refine ⟨c, q, o, m, _, HF.out, rfl, ?_, ?_, hK6⟩
    · rw [E1.out]; simp [dText, two, HN0.out]
    · rw [E1.out]
      have e := HS.out
      subst e
      simpa [two] using hT6
  · have E1 : Hid (sText (400 * c + q) m (o - Cal.dbm q m + 1) nanos = dText (400 * c + q) m (o - Cal.dbm q m + 1) ++ [84] ++ two (nanos / 3600000000000) ++ [58] ++ two (nanos / 60000000000 % 60) ++ [58] ++ two (nanos / 1000000000 % 60) ++ 46 :: (d9 f).take (cutK (d9 f) 9)) := by
      show _ = _
      unfold sText
      rw [HFQ.out, sFrac, if_neg hf0]
    refine (frac9 g _ C t _ f _ (by omega) (by omega) hT6 (by simp [HN.out]) (by omega) hCm).mono ?_
    rintro e wf ⟨rfl, hTf, hkf⟩
    have hKf := hK6.trans hkf
    have hcl := cutK_le (d9 f) 9
    have HCL : Hid (((d9 f).take (cutK (d9 f) 9)).length = cutK (d9 f) 9) := by show _ = _; rw [List.length_take, d9_length]; omega
    clear hT6 hK6 hkf
    go_wp2
    go_ret
    refine ⟨c, q, o, m, _, HF.out, rfl, ?_, ?_, hKf⟩
    · rw [E1.out]; simp only [List.length_append, List.length_cons, HCL.out]; simp [dText, two, HN0.out]; omega
    · rw [E1.out]
      have e := HS.out
      subst e
      simpa [two] using hTf

theorem slice_arr29 (A : Nat) (wx : World) : (Instr.sliceAt 38 (.pointer (some ⟨A, 0, none⟩)) none (some (.int .i64 0)) none).run Ybad.prog wx = .ok (.slice (some ⟨A, 0, none⟩) 0 29) wx := by
  have hal : Ybad.prog.arrayLen 38 = 29 := by kernel_rfl
  have hsz : (sizeOf (Ybad.prog.elem 38)).run Ybad.prog wx = .ok 1 wx := by kernel_rfl
  have ht : Ybad.prog.underlying 38 = some (.array (Ybad.prog.arrayLen 38) (Ybad.prog.elem 38)) := by kernel_rfl
  rw [run_sliceAt_array_h wx 38 ⟨A, 0, none⟩ ht .i64 0 (by omega) (by rw [hal]; omega), hsz, hal]
  simp [slicedAt, Result.andThen, Addr.add]

set_option maxRecDepth 100000 in
set_option maxHeartbeats 1000000 in
theorem string_any (days nanos : Int) (w : World) (h0 : 0 ≤ days) (h1 : days < 3652425) (hn0 : 0 ≤ nanos) (hn1 : nanos < 86400000000000) (hms : ∀ i, i < 13 → w.cell? ⟨1, i, none⟩ = some (.int .i64 (Cal.ml.getD i 0))) :
    Calls Ybad.prog 8 #[.agg #[.int .i64 days, .int .i64 nanos]] w fun e w' =>
      ∃ c q o m : Int, Cal.Found days c q o m ∧ e = .returned (.string (strOfNums (sText (400 * c + q) m (o - Cal.dbm q m + 1) nanos))) ∧ Below w.heap.size w w' := by
  have HMS : Hid (∀ i, i < 13 → w.cell? ⟨1, i, none⟩ = some (.int .i64 (Cal.ml.getD i 0))) := hms
  have hsl := fun wx => slice_arr29 (w.heap.size + 1) wx
  clear hms
  go_enter Ybad.func8, Ybad.ntmps8
  go_wp2_with fail
  generalize hw2 : (w.alloc (Obj.cells #[Value.int .i64 days, Value.int .i64 nanos] 30)).alloc (Obj.cells #[Value.int .u8 0, Value.int .u8 0, Value.int .u8 0, Value.int .u8 0, Value.int .u8 0, Value.int .u8 0, Value.int .u8 0, Value.int .u8 0, Value.int .u8 0, Value.int .u8 0, Value.int .u8 0, Value.int .u8 0, Value.int .u8 0, Value.int .u8 0, Value.int .u8 0, Value.int .u8 0, Value.int .u8 0, Value.int .u8 0, Value.int .u8 0, Value.int .u8 0, Value.int .u8 0, Value.int .u8 0, Value.int .u8 0, Value.int .u8 0, Value.int .u8 0, Value.int .u8 0, Value.int .u8 0, Value.int .u8 0, Value.int .u8 0] 38) = w2 at *
  have hx0 : w2.cell? ⟨w.heap.size, 0, none⟩ = some (.int .i64 days) := by rw [← hw2]; simp
  have hx1 : w2.cell? ⟨w.heap.size, 1, none⟩ = some (.int .i64 nanos) := by rw [← hw2]; simp
  have hT2 : Txt w2 (w.heap.size + 1) 38 29 [] := by
    rw [← hw2]
    have h := heap_alloc_new (w.alloc (Obj.cells #[Value.int .i64 days, Value.int .i64 nanos] 30)) (Obj.cells #[Value.int .u8 0, Value.int .u8 0, Value.int .u8 0, Value.int .u8 0, Value.int .u8 0, Value.int .u8 0, Value.int .u8 0, Value.int .u8 0, Value.int .u8 0, Value.int .u8 0, Value.int .u8 0, Value.int .u8 0, Value.int .u8 0, Value.int .u8 0, Value.int .u8 0, Value.int .u8 0, Value.int .u8 0, Value.int .u8 0, Value.int .u8 0, Value.int .u8 0, Value.int .u8 0, Value.int .u8 0, Value.int .u8 0, Value.int .u8 0, Value.int .u8 0, Value.int .u8 0, Value.int .u8 0, Value.int .u8 0, Value.int .u8 0] 38)
    rw [show (w.alloc (Obj.cells #[Value.int .i64 days, Value.int .i64 nanos] 30)).heap.size = w.heap.size + 1 by simp] at h
    exact Txt.of_row (L := List.replicate 29 0) h
  have hB2 : Below w.heap.size w w2 := by rw [← hw2]; exact ((Below.refl _ _).alloc (Nat.le_refl _) _).alloc (by simp) _
  have HM2 : Hid (∀ i, i < 13 → w2.cell? ⟨1, i, none⟩ = some (.int .i64 (Cal.ml.getD i 0))) := fun i hi => cell_later hB2 (HMS.out i hi)
  clear hw2 HMS
  go_region_with (go_at_call 14; refine (text_any (w.heap.size + 1) 0 29 38 [] days nanos _ h0 h1 hn0 hn1 (by exact HM2.out) (by exact hT2) rfl (by omega) (by omega)).mono ?_; rintro e w3 ⟨c, q, o, m, L, F, rfl, hL, hT3, hk3⟩; have hstr := hT3.str L hL)
  all_goals
    go_wp2
    go_ret
    exact ⟨c, q, o, m, F, rfl, Kept1.below hB2.drew hk3 hB2.size (by omega)⟩

end Go.Proofs.YbulkdobsDoor
