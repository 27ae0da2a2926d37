/-
  S5751C: THE LAW's OWN MODEL: zzs5751cdigits.
-/
import Derived.Test.YbulkdobsDoorDigits
import Derived.Test.YbulkdobsDoorDates
namespace Go.Proofs.YbulkdobsDoor
open Go.RowKit

def p10 : Nat → Int
  | 0 => 1
  | m + 1 => p10 m * 10
theorem p10_pos : ∀ m, 1 ≤ p10 m
  | 0 => by simp [p10]
  | m + 1 => by have := p10_pos m; rw [p10]; omega
theorem div_p10 (x : Int) (m : Nat) : x / p10 m / 10 = x / p10 (m + 1) := by
  rw [p10, Int.ediv_ediv_of_nonneg (by have := p10_pos m; omega)]
/-- The last m digits of x. -/
def dig : Nat → Int → List Int
  | 0, _ => []
  | m + 1, x => (48 + x / p10 m % 10) :: dig m x
theorem dig_length : ∀ m x, (dig m x).length = m
  | 0, _ => rfl
  | m + 1, x => by simp [dig, dig_length m x]

/-- The array t, j digits yet to come. -/
def arr (k j : Nat) (x : Int) : List Int := List.replicate j 0 ++ (dig (k - j) x ++ List.replicate (9 - k) 0)
theorem arr_length (k j : Nat) (x : Int) (h : j ≤ k) (hk : k ≤ 9) : (arr k j x).length = 9 := by simp [arr, dig_length]; omega
theorem arr_start (k : Nat) (x : Int) (hk : k ≤ 9) : arr k k x = List.replicate 9 0 := by
  unfold arr
  rw [Nat.sub_self, dig, List.nil_append, List.replicate_append_replicate]
  congr 1
  omega
theorem arr_step (k j : Nat) (x : Int) (h : j < k) : (arr k (j + 1) x).set j (48 + x / p10 (k - (j + 1)) % 10) = arr k j x := by
  unfold arr
  rw [List.replicate_succ', List.append_assoc, List.set_append_right _ _ (by simp), List.length_replicate, Nat.sub_self]
  rw [show k - j = (k - (j + 1)) + 1 by omega, dig]
  rfl
theorem arr_end (k : Nat) (x : Int) (i : Nat) (h : i < k) : (arr k 0 x).getD i 0 = (dig k x).getD i 0 := by
  simp [arr, List.getElem?_append_left (show i < (dig k x).length by rw [dig_length]; exact h)]

theorem Kept1.newer {g A : Nat} {w w0 wr : World} (h : Kept1 g w w0) (hk : Kept1 A w0 wr) (hA : w.heap.size ≤ A) : Kept1 g w wr :=
  ⟨hk.os.trans h.os, hk.tape.trans h.tape, hk.output.trans h.output, Nat.le_trans h.size hk.size, fun i hi h1 => (hk.block i (Nat.lt_of_lt_of_le hi h.size) (by omega)).trans (h.block i hi h1)⟩

theorem div_bd9 (x : Int) (m : Nat) (h0 : 0 ≤ x) (h : x ≤ 999999999) : 0 ≤ x / p10 m ∧ x / p10 m ≤ 999999999 := by
  have h1 := p10_pos m
  exact ⟨Int.ediv_nonneg h0 (by omega), Int.le_trans (Int.ediv_le_self _ h0) h⟩

theorem slice_arr9 (A k : Nat) (hk : k ≤ 9) (wx : World) : (Instr.sliceAt 42 (.pointer (some ⟨A, 0, none⟩)) none (some (.int .i64 (k : Int))) none).run Ybad.prog wx = .ok (.slice (some ⟨A, 0, none⟩) k 9) wx := by
  have hal : Ybad.prog.arrayLen 42 = 9 := by kernel_rfl
  have hsz : (sizeOf (Ybad.prog.elem 42)).run Ybad.prog wx = .ok 1 wx := by kernel_rfl
  have ht : Ybad.prog.underlying 42 = some (.array (Ybad.prog.arrayLen 42) (Ybad.prog.elem 42)) := by kernel_rfl
  rw [run_sliceAt_array_h wx 42 ⟨A, 0, none⟩ ht .i64 (k : Int) (by omega) (by rw [hal]; omega), hsz, hal]
  simp [slicedAt, Result.andThen, Addr.add]

set_option maxRecDepth 100000 in
set_option maxHeartbeats 1000000 in
theorem cdigits (g n C : Nat) (t : TypeId) (T : List Int) (x kk : Int) (k : Nat) (w : World) (hkk : kk = (k : Int)) (hk1 : 1 ≤ k) (hk9 : k ≤ 9) (hx0 : 0 ≤ x) (hx : x ≤ 999999999) (hT : Txt w g t C T) (hn : T.length = n) (hroom : n + k ≤ C) :
    Calls Ybad.prog 16 #[.slice (some ⟨g, 0, none⟩) n C, .int .i64 x, .int .i64 kk] w fun e w' => e = .returned (.slice (some ⟨g, 0, none⟩) (n + k) C) ∧ Txt w' g t C (T ++ dig k x) ∧ Kept1 g w w' := by
  subst hkk
  have HN : Hid (T.length = n) := hn
  have hgw : g < w.heap.size := hT.lt
  clear hn
  go_enter Ybad.func16, Ybad.ntmps16
  go_wp2
  generalize hw0 : w.alloc (Obj.cells #[Value.int .u8 0, Value.int .u8 0, Value.int .u8 0, Value.int .u8 0, Value.int .u8 0, Value.int .u8 0, Value.int .u8 0, Value.int .u8 0, Value.int .u8 0] 42) = w0 at *
  have hA0 : Row8 w0 w.heap.size 42 (arr k k x) := by
    rw [arr_start k x hk9, ← hw0]
    exact heap_alloc_new w _
  have hT0 : Txt w0 g t C T := by rw [← hw0]; exact hT.alloc _
  have hK0 : Kept1 g w w0 := by rw [← hw0]; exact (Kept1.refl g w).alloc _
  clear hT hw0
  go_loopw [1, 8] (fun nn i wr => ∃ j : Nat, j ≤ k ∧ i = .int .i64 ((j : Int) - 1) ∧ nn = .int .i64 (x / p10 (k - j)) ∧ Row8 wr w.heap.size 42 (arr k j x) ∧ Kept1 w.heap.size w0 wr) (fun _ i _ => (intOf i + 1).toNat)
  case atStart => exact ⟨k, Nat.le_refl _, by go_num, by rw [Nat.sub_self]; simp [p10], hA0, Kept1.refl _ _⟩
  case round =>
    obtain ⟨j, hj, rfl, rfl, hA, hK⟩ := hrel
    have hvb := div_bd9 x (k - j) hx0 hx
    rcases j with _ | j
    · clear hA0
      have hT1 := hK.txt hT0 (by omega)
      have HSRC : Hid (∀ i, i < k → wr.cell? ⟨w.heap.size, 0 + i, none⟩ = some (.int .u8 ((dig k x).getD i 0))) := fun i hi => by
        rw [Nat.zero_add, hA.cell i (by rw [arr_length k 0 x (by omega) hk9]; omega), arr_end k x i hi]
      have hsl := fun wx => slice_arr9 w.heap.size k hk9 wx
      go_wp2_with (at_builtin; refine wpList_append_txt rfl _ _ rfl g n C t T (dig k x) rfl hT1 HN.out w.heap.size 0 k 9 rfl (dig_length k x) HSRC.out hroom ?_)
      intro w1 hr1 hk1'
      go_wp2
      go_ret
      exact ⟨rfl, hr1, (hK0.newer hK (Nat.le_refl _)).trans hk1'⟩
    · have hc := hA.cell j (by rw [arr_length k (j + 1) x hj hk9]; omega)
      have hf := hA.fr j
      have hst := hA.set j (48 + x / p10 (k - (j + 1)) % 10)
      rw [arr_step k j x (by omega)] at hst
      have HV : Hid (x / p10 (k - (j + 1)) / 10 = x / p10 (k - j)) := by rw [div_p10]; show _ = _; congr 2; omega
      generalize x / p10 (k - (j + 1)) = v at *
      clear hA0 hA
      go_wp2
      go_roundw
      case rel => exact ⟨j, by omega, rfl, by rw [HV.out], hst, hK.set _ _⟩
      case measure => simp [intOf]

/-- The fraction's text. -/
def fText (f : Int) : List Int := if f = 0 then [] else 46 :: (dig 9 f).take (cutK (dig 9 f) 9)
/-- The model's text: the time's part. -/
def hText (s f : Int) : List Int := dig 2 (s / 3600) ++ [58] ++ dig 2 (s / 60 % 60) ++ [58] ++ dig 2 (s % 60) ++ fText f
def mText (y m d s f : Int) : List Int := dig 4 y ++ [45] ++ dig 2 m ++ [45] ++ dig 2 d ++ [84] ++ hText s f

theorem ret_str {T T' : List Int} (h : T = T') : Ending.returned (.string (strOfNums T)) = .returned (.string (strOfNums T')) := by rw [h]

def mHead (y m d s : Int) : List Int := dig 4 y ++ [45] ++ dig 2 m ++ [45] ++ dig 2 d ++ [84] ++ dig 2 (s / 3600) ++ [58] ++ dig 2 (s / 60 % 60) ++ [58] ++ dig 2 (s % 60)
theorem mText_frac (y m d s f : Int) (h : ¬ f = 0) : mText y m d s f = mHead y m d s ++ 46 :: (dig 9 f).take (cutK (dig 9 f) 9) := by simp [mText, mHead, hText, fText, h]

theorem make32 (w : World) : (Instr.makeSlice 34 (.int .i64 0) (.int .i64 32)).run Ybad.prog w = .ok (.slice (some ⟨w.heap.size, 0, none⟩) 0 32) (w.alloc (.cells (bts (List.replicate 32 0)).toArray 5)) := by kernel_rfl

set_option maxRecDepth 100000 in
set_option maxHeartbeats 2000000 in
theorem model_any (n c q o m nanos : Int) (h0 : 0 ≤ n) (h1 : n < 3652425) (F : Cal.Found n c q o m) (hn0 : 0 ≤ nanos) (hn1 : nanos < 86400000000000) (hy : 0 ≤ 400 * c + q ∧ 400 * c + q ≤ 9999) (hd : 1 ≤ o - Cal.dbm q m + 1 ∧ o - Cal.dbm q m + 1 ≤ 31) (w : World) :
    Calls Ybad.prog 9 #[.int .i64 n, .int .i64 nanos] w fun r w' => r = .returned (.string (strOfNums (mText (400 * c + q) m (o - Cal.dbm q m + 1) (nanos / 1000000000) (nanos % 1000000000)))) ∧ Below w.heap.size w w' := by
  have cc := cdate_any n c q o m h0 h1 F
  have CC : Hid (∀ w, Calls Ybad.prog 15 #[.int .i64 n] w fun r w' => r = .returned (.tuple #[.int .i64 (400 * c + q), .int .i64 m, .int .i64 (o - Cal.dbm q m + 1)]) ∧ w = w') := cc
  have hm : 1 ≤ m ∧ m ≤ 12 := ⟨F.m1, F.m12⟩
  clear cc F
  generalize 400 * c + q = y at *
  generalize o - Cal.dbm q m + 1 = d at *
  have hmk := make32
  go_enter Ybad.func9, Ybad.ntmps9
  go_wp2_with fail
  refine (CC.out _).mono ?_
  rintro e w' ⟨rfl, rfl⟩
  go_wp2_with fail
  generalize hw0 : w.alloc (Obj.cells (bts [0, 0, 0, 0, 0, 0, 0, 0, 0, 0, 0, 0, 0, 0, 0, 0, 0, 0, 0, 0, 0, 0, 0, 0, 0, 0, 0, 0, 0, 0, 0, 0]).toArray 5) = w0 at *
  have hT0 : Txt w0 w.heap.size 5 32 [] := by rw [← hw0]; exact Txt.of_row (L := [0, 0, 0, 0, 0, 0, 0, 0, 0, 0, 0, 0, 0, 0, 0, 0, 0, 0, 0, 0, 0, 0, 0, 0, 0, 0, 0, 0, 0, 0, 0, 0]) (heap_alloc_new w _)
  have hB0 : Below w.heap.size w w0 := by rw [← hw0]; exact (Below.refl _ _).alloc (Nat.le_refl _) _
  clear hw0 hmk
  have hg0 : w.heap.size < w0.heap.size := hT0.lt
  refine (cdigits w.heap.size 0 32 5 _ y 4 4 _ rfl (by omega) (by omega) (by omega) (by omega) hT0 (by simp) (by omega)).mono ?_
  rintro e w1 ⟨rfl, hT1, hK1⟩
  have hB1 := Kept1.below hB0 hK1 hB0.size (Nat.le_refl _)
  clear hT0 hB0 hK1
  go_wp2_with (at_builtin; refine wpList_append_txt rfl _ _ rfl w.heap.size 4 32 5 _ [45] rfl (hT1.alloc _) (by simp [dig_length]) w1.heap.size 0 1 1 rfl rfl (new_one w1 5 _) (by omega) ?_)
  intro w2 hT2 hK2
  have hB2 := Kept1.below (hB1.alloc hB1.size _) hK2 (Nat.le_trans hB1.size (by simp)) (Nat.le_refl _)
  clear hT1 hB1 hK2
  go_wp2_with fail
  refine (cdigits w.heap.size 5 32 5 _ m 2 2 _ rfl (by omega) (by omega) (by omega) (by omega) hT2 (by simp [dig_length]) (by omega)).mono ?_
  rintro e w3 ⟨rfl, hT3, hK3⟩
  have hB3 := Kept1.below hB2 hK3 hB2.size (Nat.le_refl _)
  clear hT2 hB2 hK3
  go_wp2_with (at_builtin; refine wpList_append_txt rfl _ _ rfl w.heap.size 7 32 5 _ [45] rfl (hT3.alloc _) (by simp [dig_length]) w3.heap.size 0 1 1 rfl rfl (new_one w3 5 _) (by omega) ?_)
  intro w4 hT4 hK4
  have hB4 := Kept1.below (hB3.alloc hB3.size _) hK4 (Nat.le_trans hB3.size (by simp)) (Nat.le_refl _)
  clear hT3 hB3 hK4
  go_wp2_with fail
  refine (cdigits w.heap.size 8 32 5 _ d 2 2 _ rfl (by omega) (by omega) (by omega) (by omega) hT4 (by simp [dig_length]) (by omega)).mono ?_
  rintro e w5 ⟨rfl, hT5, hK5⟩
  have hB5 := Kept1.below hB4 hK5 hB4.size (Nat.le_refl _)
  clear hT4 hB4 hK5
  go_wp2_with (at_builtin; refine wpList_append_txt rfl _ _ rfl w.heap.size 10 32 5 _ [84] rfl (hT5.alloc _) (by simp [dig_length]) w5.heap.size 0 1 1 rfl rfl (new_one w5 5 _) (by omega) ?_)
  intro w6 hT6 hK6
  have hB6 := Kept1.below (hB5.alloc hB5.size _) hK6 (Nat.le_trans hB5.size (by simp)) (Nat.le_refl _)
  clear hT5 hB5 hK6
  go_wp2_with fail
  have hsb : 0 ≤ nanos / 1000000000 ∧ nanos / 1000000000 ≤ 86399 := by omega
  have hfb : 0 ≤ nanos % 1000000000 ∧ nanos % 1000000000 ≤ 999999999 := by omega
  generalize hsq : nanos / 1000000000 = s at *
  generalize hfq : nanos % 1000000000 = f at *
  have HSQ : Hid (nanos / 1000000000 = s) := hsq
  have HFQ : Hid (nanos % 1000000000 = f) := hfq
  clear hsq hfq
  refine (cdigits w.heap.size 11 32 5 _ (s / 3600) 2 2 _ rfl (by omega) (by omega) (by omega) (by omega) hT6 (by simp [dig_length]) (by omega)).mono ?_
  rintro e w7 ⟨rfl, hT7, hK7⟩
  have hB7 := Kept1.below hB6 hK7 hB6.size (Nat.le_refl _)
  clear hT6 hB6 hK7
  go_wp2_with (at_builtin; refine wpList_append_txt rfl _ _ rfl w.heap.size 13 32 5 _ [58] rfl (hT7.alloc _) (by simp [dig_length]) w7.heap.size 0 1 1 rfl rfl (new_one w7 5 _) (by omega) ?_)
  intro w8 hT8 hK8
  have hB8 := Kept1.below (hB7.alloc hB7.size _) hK8 (Nat.le_trans hB7.size (by simp)) (Nat.le_refl _)
  clear hT7 hB7 hK8
  go_wp2_with fail
  refine (cdigits w.heap.size 14 32 5 _ (s / 60 % 60) 2 2 _ rfl (by omega) (by omega) (by omega) (by omega) hT8 (by simp [dig_length]) (by omega)).mono ?_
  rintro e w9 ⟨rfl, hT9, hK9⟩
  have hB9 := Kept1.below hB8 hK9 hB8.size (Nat.le_refl _)
  clear hT8 hB8 hK9
  go_wp2_with (at_builtin; refine wpList_append_txt rfl _ _ rfl w.heap.size 16 32 5 _ [58] rfl (hT9.alloc _) (by simp [dig_length]) w9.heap.size 0 1 1 rfl rfl (new_one w9 5 _) (by omega) ?_)
  intro w10 hT10 hK10
  have hB10 := Kept1.below (hB9.alloc hB9.size _) hK10 (Nat.le_trans hB9.size (by simp)) (Nat.le_refl _)
  clear hT9 hB9 hK10
  go_wp2_with fail
  refine (cdigits w.heap.size 17 32 5 _ (s % 60) 2 2 _ rfl (by omega) (by omega) (by omega) (by omega) hT10 (by simp [dig_length]) (by omega)).mono ?_
  rintro e w11 ⟨rfl, hT11, hK11⟩
  have hB11 := Kept1.below hB10 hK11 hB10.size (Nat.le_refl _)
  clear hT10 hB10 hK11
  by_cases hf0 : f = 0
  · have hfz : (f != 0) = false := by simp [hf0]
    have HF : Hid (f = 0) := hf0
    clear hf0
    have hstr := hT11.str 19 (by simp [dig_length])
    go_wp2
    go_ret
    exact ⟨ret_str (by rw [HSQ.out, HFQ.out, HF.out]; simp [mText, hText, fText]), hB11⟩
  · have hfz : (f != 0) = true := by simp [hf0]
    have HF : Hid (¬ f = 0) := hf0
    clear hf0
    go_wp2
    generalize hw12 : w11.alloc (Obj.cells #[Value.int .u8 0, Value.int .u8 0, Value.int .u8 0, Value.int .u8 0, Value.int .u8 0, Value.int .u8 0, Value.int .u8 0, Value.int .u8 0, Value.int .u8 0] 42) = w12 at *
    have hA0 : Row8 w12 w11.heap.size 42 (arr 9 9 f) := by
      rw [arr_start 9 f (by omega), ← hw12]
      exact heap_alloc_new w11 _
    obtain ⟨T, hTT, hT12⟩ : ∃ T, T = mHead y m d s ∧ Txt w12 w.heap.size 5 32 T := ⟨_, rfl, by rw [← hw12]; exact Txt.alloc (by simpa [mHead] using hT11) _⟩
    have HTT : Hid (T = mHead y m d s) := hTT
    have HTL : Hid (T.length = 19) := by show _ = _; rw [hTT]; simp [mHead, dig_length]
    clear hTT
    have hB12 : Below w.heap.size w w12 := by rw [← hw12]; exact hB11.alloc hB11.size _
    have hgA : w.heap.size < w11.heap.size := hT11.lt
    clear hT11 hB11 hw12
    generalize w11.heap.size = A at *
    go_loopw [12, 13] (fun nn i wr => ∃ j : Nat, j ≤ 9 ∧ i = .int .i64 ((j : Int) - 1) ∧ nn = .int .i64 (f / p10 (9 - j)) ∧ Row8 wr A 42 (arr 9 j f) ∧ Kept1 A w12 wr) (fun _ i _ => (intOf i + 1).toNat)
    case atStart => exact ⟨9, Nat.le_refl _, rfl, by simp [p10], hA0, Kept1.refl _ _⟩
    case round =>
      clear hA0
      obtain ⟨j, hj, rfl, rfl, hA, hK⟩ := hrel
      have hvb := div_bd9 f (9 - j) hfb.1 hfb.2
      rcases j with _ | j
      · have hT13 := hK.txt hT12 (by omega)
        have hB13 := Kept1.below hB12 hK hB12.size (by omega)
        have HDC : Hid (∀ i, i < 9 → wr.cell? ⟨A, i, none⟩ = some (.int .u8 ((dig 9 f).getD i 0))) := fun i hi => by
          rw [hA.cell i (by rw [arr_length 9 0 f (by omega) (by omega)]; omega), arr_end 9 f i hi]
        clear hT12 hB12 hA hK hvb
        generalize hds : dig 9 f = ds at *
        have HDS : Hid (dig 9 f = ds) := hds
        have HL : Hid (ds.length = 9) := by rw [← hds]; rfl
        clear hds
        go_wp2
        go_loop [14] (fun v => ∃ k : Nat, k ≤ 9 ∧ v = .int .i64 k ∧ cutK ds k = cutK ds 9) (fun v => (intOf v).toNat)
        case atStart => exact ⟨9, Nat.le_refl _, rfl, rfl⟩
        case round =>
          obtain ⟨k, hk, rfl, hcut⟩ := hrel
          have HC : Hid (cutK ds k = cutK ds 9) := hcut
          clear hcut
          by_cases hgo : 0 < k ∧ ds.getD (k - 1) 0 = 48
          · obtain ⟨hk0, h48⟩ := hgo
            obtain ⟨i, rfl⟩ : ∃ i, k = i + 1 := ⟨k - 1, by omega⟩
            have hci := HDC.out i (by omega)
            have HC' : Hid (cutK ds i = cutK ds 9) := by rw [← HC.out]; exact (cutK_hit ds i (by simpa using h48)).symm
            have hb48 : (ds.getD i 0 == 48) = true := by simpa using h48
            clear h48
            generalize ds.getD i 0 = di at *
            go_wp2
            go_round
            case rel => exact ⟨i, by omega, by go_num, HC'.out⟩
            case measure => simp [intOf]
          · have HK : Hid (cutK ds 9 = k) := by
              rw [← HC.out]
              rcases k with _ | i
              · rfl
              · exact cutK_miss ds i (fun h => hgo ⟨by omega, by simpa using h⟩)
            have hend : (¬ 0 < k) ∨ (0 < k ∧ wr.cell? ⟨A, k - 1, none⟩ = some (.int .u8 (ds.getD (k - 1) 0)) ∧ (ds.getD (k - 1) 0 == 48) = false) := by
              by_cases h : 0 < k
              · exact .inr ⟨h, HDC.out (k - 1) (by omega), by simpa [h] using hgo⟩
              · exact .inl h
            clear hgo
            have HSRC : Hid (∀ i, i < k → wr.cell? ⟨A, 0 + i, none⟩ = some (.int .u8 ((ds.take k).getD i 0))) := fun i hi => by
              rw [Nat.zero_add, HDC.out i (by omega)]
              simp [hi]
            have hsl := fun wx => slice_arr9 A k hk wx
            rcases hend with hk0 | ⟨hk0, hcd, hne⟩
            case' inr => generalize ds.getD (k - 1) 0 = dk at *
            all_goals
              go_wp2_with (at_builtin; refine wpList_append_txt rfl _ _ rfl w.heap.size 19 32 5 _ [46] rfl (hT13.alloc _) HTL.out wr.heap.size 0 1 1 rfl rfl (new_one wr 5 _) (by omega) ?_)
              intro w14 hT14 hK14
              have hB14 := Kept1.below (hB13.alloc hB13.size _) hK14 (Nat.le_trans hB13.size (by simp)) (Nat.le_refl _)
              have HSRC2 : Hid (∀ i, i < k → w14.cell? ⟨A, 0 + i, none⟩ = some (.int .u8 ((ds.take k).getD i 0))) := fun i hi => hK14.cell (cell_later ((Below.refl _ _).alloc (Nat.le_refl _) _) (HSRC.out i hi)) (by exact Nat.ne_of_gt hgA)
              clear hT13 hB13 hK14 HSRC
              go_wp2_with (at_builtin; refine wpList_append_txt rfl _ _ rfl w.heap.size 20 32 5 _ (ds.take k) rfl hT14 (by simp [HTL.out]) A 0 k 9 rfl (by rw [List.length_take, HL.out]; omega) HSRC2.out (by omega) ?_)
              intro w15 hT15 hK15
              have hB15 := Kept1.below hB14 hK15 hB14.size (Nat.le_refl _)
              have hstr := hT15.str (20 + k) (by rw [List.length_append, HTL.out, List.length_cons, List.length_take, HL.out]; omega)
              clear hT14 hB14 hK15 hT15
              go_wp2
              go_ret
              exact ⟨ret_str (by rw [HSQ.out, HFQ.out, HTT.out, mText_frac _ _ _ _ _ HF.out, HDS.out, HK.out]), hB15⟩
      · have hc := hA.cell j (by rw [arr_length 9 (j + 1) f hj (by omega)]; omega)
        have hfr := hA.fr j
        have hst := hA.set j (48 + f / p10 (9 - (j + 1)) % 10)
        rw [arr_step 9 j f (by omega)] at hst
        have HV : Hid (f / p10 (9 - (j + 1)) / 10 = f / p10 (9 - j)) := by rw [div_p10]; show _ = _; congr 2; omega
        generalize f / p10 (9 - (j + 1)) = v at *
        clear hA
        go_wp2
        go_roundw
        case rel => exact ⟨j, by omega, rfl, by rw [HV.out], hst, hK.set _ _⟩
        case measure => simp [intOf]

end Go.Proofs.YbulkdobsDoor
