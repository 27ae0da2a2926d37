/-
  S5751A: THE MODEL's TEXT: zzs5751adigits, zzs5751afrac, zzs5751acomp.
-/
import Derived.Test.YbulkdobsDoorItoa
namespace Go.Proofs.YbulkdobsDoor
open Go.RowKit

/-- v's digits, none for 0. -/
def pre (v : Int) : List Int := if v = 0 then [] else dec v.toNat
theorem pre_zero : pre 0 = [] := rfl
theorem pre_step (v : Int) (h : 0 < v) : pre v = pre (v / 10) ++ [48 + v % 10] := by
  obtain ⟨n, rfl⟩ : ∃ n : Nat, v = n := ⟨v.toNat, by omega⟩
  have e : ((n : Int) / 10).toNat = n / 10 := by omega
  unfold pre
  rw [if_neg (by omega), e, Int.toNat_natCast]
  by_cases h1 : n < 10
  · rw [if_pos (by omega), dec_small n h1]
    simp
    omega
  · rw [if_neg (by omega), dec_big n h1]
    simp
theorem dec_ne (u : Nat) : dec u ≠ [] := by
  intro h
  have := congrArg List.length h
  rw [dec_length] at this
  have := Lib.nDigits_pos u
  simp at *
  omega

theorem slice_arr20 (A k : Nat) (hk : k < 20) (wx : World) : (Instr.sliceAt 51 (.pointer (some ⟨A, 0, none⟩)) (some (.int .i64 (k : Int))) none none).run Ybad.prog wx = .ok (.slice (some ⟨A, k, none⟩) (20 - k) (20 - k)) wx := by
  have hal : Ybad.prog.arrayLen 51 = 20 := by kernel_rfl
  have hsz : (sizeOf (Ybad.prog.elem 51)).run Ybad.prog wx = .ok 1 wx := by kernel_rfl
  have ht : Ybad.prog.underlying 51 = some (.array (Ybad.prog.arrayLen 51) (Ybad.prog.elem 51)) := by kernel_rfl
  rw [run_sliceAt_array_l wx 51 ⟨A, 0, none⟩ ht .i64 (k : Int) (by omega) (by rw [hal]; omega), hsz, hal]
  simp [slicedAt, Result.andThen, Addr.add, show ¬ 20 = k by omega]
  exact fun h => h.symm

set_option maxRecDepth 100000 in
set_option maxHeartbeats 1000000 in
theorem adigits (u : Nat) (w : World) (hu : u < 1000000000) :
    Calls Ybad.prog 12 #[.int .i64 u] w fun e w' => e = .returned (.string (strOfNums (dec u))) ∧ Below w.heap.size w w' := by
  by_cases hz : u = 0
  · subst hz
    go_enter Ybad.func12, Ybad.ntmps12
    go_wp2
    go_ret
    refine ⟨?_, Below.refl _ _⟩
    rw [dec_small 0 (by omega)]
    rfl
  have hnz : ((u : Int) == 0) = false := by simp; omega
  have hnd := nd9 u hu
  have HS : Hid (pre u ++ [] = dec u) := by show _ = _; simp [pre, hz]
  go_enter Ybad.func12, Ybad.ntmps12
  go_wp2
  generalize hw0 : w.alloc (Obj.cells _ 51) = w0 at *
  have hA0 : Row8 w0 w.heap.size 51 (List.replicate 20 0) := by
    rw [← hw0]
    exact heap_alloc_new w _
  have hK0 : Below w.heap.size w w0 := by rw [← hw0]; exact (Below.refl _ _).alloc (Nat.le_refl _) _
  clear hw0
  go_loopw [0, 4] (fun nn i wr => ∃ (k : Nat) (v : Int) (R S : List Int), 0 ≤ v ∧ v < 1000000000 ∧ k ≤ 20 ∧ R.length = k ∧ k + S.length = 20 ∧ pre v ++ S = dec u ∧ i = .int .i64 k ∧ nn = .int .i64 v ∧ Row8 wr w.heap.size 51 (R ++ S) ∧ Kept1 w.heap.size w0 wr) (fun nn _ _ => (intOf nn).toNat)
  case atStart => exact ⟨20, u, List.replicate 20 0, [], by omega, by omega, by omega, by simp, by simp, HS.out, rfl, rfl, by simpa using hA0, Kept1.refl _ _⟩
  case round =>
    obtain ⟨k, v, R, S, hv0, hv9, hk20, hRk, hkS, hpre, rfl, rfl, hA, hK⟩ := hrel
    have hlen := congrArg List.length hpre
    rw [dec_length, List.length_append] at hlen
    have HR : Hid (R.length = k) := hRk
    have HP : Hid (pre v ++ S = dec u) := hpre
    have HSl : Hid (k + S.length = 20) := hkS
    have hk11 : 11 ≤ k := by omega
    by_cases hv : v = 0
    · subst hv
      have hPd : S = dec u := by simpa [pre_zero] using HP.out
      have hSne : k < 20 := by
        have h1 := dec_ne u
        rw [← hPd] at h1
        have := List.length_pos_iff.2 h1
        omega
      have hsl := fun wx => slice_arr20 w.heap.size k hSne wx
      have hcv := run_convert_bytes_arg (P := Ybad.prog) wr 34 5 Ybad.underlying34 Ybad.underlying5 w.heap.size k (20 - k) (20 - k) (dec u) (by rw [← hPd]; omega) (fun i hi => by
        rw [hA.cell (k + i) (by simp; omega), ← hPd]
        congr 2
        simp [List.getElem?_append_right (show R.length ≤ k + i by omega), show k + i - R.length = i by omega]) 9 Ybad.underlying9
      clear hpre hRk hkS hlen hA0 hPd hA
      go_wp2
      go_ret
      exact ⟨rfl, hK0.trans (Kept1.below (Below.refl _ _) hK (by have := hK0.size; omega) (Nat.le_refl _))⟩
    · have hvp : 0 < v := by omega
      have hS1 := pre_step v hvp
      obtain ⟨k, rfl⟩ : ∃ j, k = j + 1 := ⟨k - 1, by omega⟩
      have hc := hA.cell k (by simp; omega)
      have hf := hA.fr k
      have hst := hA.set k (48 + v % 10)
      have HE : Hid ((R ++ S).set k (48 + v % 10) = R.take k ++ ((48 + v % 10) :: S)) := by
        show _ = _
        rw [List.set_append_left _ _ (by omega)]
        rw [List.set_eq_take_append_cons_drop, if_pos (by omega), List.drop_eq_nil_of_le (by omega)]
        simp
      rw [HE.out] at hst
      have HP' : Hid (pre (v / 10) ++ ((48 + v % 10) :: S) = dec u) := by
        show _ = _
        rw [← HP.out, hS1]
        simp
      clear hpre hRk hkS hlen hA0 hA hS1 HE HP
      go_wp2
      go_roundw
      case rel => exact ⟨k, v / 10, R.take k, (48 + v % 10) :: S, by omega, by omega, by omega, by have := HR.out; simp; omega, by have := HSl.out; simp; omega, HP'.out, by go_num, rfl, hst, hK.set _ _⟩
      case measure => simp [intOf]; omega

theorem str_app (a b : List Int) : strOfNums a ++ strOfNums b = strOfNums (a ++ b) := by
  apply ByteArray.ext
  simp [strOfNums]

/-- The last m digits of x, from behind. -/
def dl : Nat → Int → List Int
  | 0, _ => []
  | m + 1, x => dl m (x / 10) ++ [48 + x % 10]
theorem dl_length : ∀ m x, (dl m x).length = m
  | 0, _ => rfl
  | m + 1, x => by simp [dl, dl_length m]
theorem dl_zero : ∀ m, dl m 0 = List.replicate m 48
  | 0 => rfl
  | m + 1 => by rw [dl, show (0 : Int) / 10 = 0 by decide, dl_zero m, List.replicate_succ']; rfl
theorem dl9 (f : Int) (h0 : 0 ≤ f) (h : f ≤ 999999999) : dl 9 f = d9 f := by
  simp [dl, d9]
  omega
theorem padded : ∀ (m x : Nat), x < 10 ^ (m + 1) → (dec x).length ≤ m + 1 ∧ List.replicate (m + 1 - (dec x).length) 48 ++ dec x = dl (m + 1) x
  | 0, x, h => by
    have hx : x < 10 := by simpa using h
    rw [dec_small x hx]
    simp [dl]
    omega
  | m + 1, x, h => by
    by_cases hx : x < 10
    · rw [dec_small x hx, dl, show ((x : Nat) : Int) / 10 = 0 by omega, dl_zero]
      simp
      omega
    · obtain ⟨h1, h2⟩ := padded m (x / 10) (by rw [Nat.pow_succ] at h; omega)
      have e : dl (m + 1 + 1) (x : Int) = dl (m + 1) ((x : Int) / 10) ++ [48 + (x : Int) % 10] := rfl
      rw [dec_big x hx, e]
      have e2 : ((x : Int) / 10) = ((x / 10 : Nat) : Int) := by omega
      rw [e2, ← h2]
      simp only [List.length_append, List.length_singleton]
      refine ⟨by omega, ?_⟩
      rw [show m + 1 + 1 - ((dec (x / 10)).length + 1) = m + 1 - (dec (x / 10)).length by omega]
      simp

/-- One round of the cutting. -/
theorem cut_round (D : List Int) (k j : Nat) (f : Int) (hD : dl (k + 1) f ++ List.replicate j 48 = D) (hc : cutK D (k + 1) = cutK D 9) :
    D.getD k 0 = 48 + f % 10 ∧ (f % 10 = 0 → dl k (f / 10) ++ List.replicate (j + 1) 48 = D ∧ cutK D k = cutK D 9) ∧ (f % 10 ≠ 0 → cutK D 9 = k + 1 ∧ D.take (k + 1) = dl (k + 1) f) := by
  have hg : D.getD k 0 = 48 + f % 10 := by
    rw [← hD, dl]
    simp [dl_length]
  refine ⟨hg, fun h => ⟨?_, ?_⟩, fun h => ⟨?_, ?_⟩⟩
  · rw [← hD, dl, h, List.replicate_succ]
    simp
  · rw [← hc, cutK_hit D k (by rw [hg, h]; rfl)]
  · rw [← hc, cutK_miss D k (by rw [hg]; omega)]
  · rw [← hD, List.take_left' (dl_length _ _)]

set_option maxRecDepth 100000 in
set_option maxHeartbeats 1000000 in
theorem afrac (f : Int) (w : World) (h0 : 0 < f) (h9 : f ≤ 999999999) :
    Calls Ybad.prog 13 #[.int .i64 f] w fun e w' => e = .returned (.string (strOfNums ((d9 f).take (cutK (d9 f) 9)))) ∧ Below w.heap.size w w' := by
  have HD : Hid (dl 9 f ++ List.replicate 0 48 = d9 f) := by show _ = _; simpa using dl9 f (by omega) h9
  generalize d9 f = D at *
  go_enter Ybad.func13, Ybad.ntmps13
  go_wp2
  go_loop [0, 3] (fun ff i => ∃ (k j : Nat) (v : Int), 0 < v ∧ v < 10 ^ (k + 1) ∧ v ≤ 999999999 ∧ k + 1 + j = 9 ∧ dl (k + 1) v ++ List.replicate j 48 = D ∧ cutK D (k + 1) = cutK D 9 ∧ i = .int .i64 ((k : Int) + 1) ∧ ff = .int .i64 v) (fun _ i => (intOf i).toNat)
  case atStart => exact ⟨8, 0, f, h0, by omega, h9, rfl, HD.out, rfl, rfl, rfl⟩
  case round =>
    obtain ⟨k, j, v, hv0, hvk, hv9, hkj, hD, hc, rfl, rfl⟩ := hrel
    obtain ⟨hg, hz, hnz⟩ := cut_round D k j v hD hc
    clear hD hc
    by_cases h10 : v % 10 = 0
    · have hb : (v % 10 == 0) = true := by simp [h10]
      obtain ⟨hD', hc'⟩ := hz h10
      obtain ⟨k, rfl⟩ : ∃ i, k = i + 1 := by
        rcases k with _ | k
        · simp at hvk; omega
        · exact ⟨k, rfl⟩
      have hp : v / 10 < 10 ^ (k + 1) := by rw [Int.pow_succ] at hvk; omega
      have HD' : Hid (dl (k + 1) (v / 10) ++ List.replicate (j + 1) 48 = D) := hD'
      have HC' : Hid (cutK D (k + 1) = cutK D 9) := hc'
      have HP : Hid (v / 10 < 10 ^ (k + 1)) := hp
      have hv1 : 0 < v / 10 := by omega
      clear hz hnz hg hvk hD' hc' hp h10
      go_wp2
      go_round
      case rel => exact ⟨k, j + 1, v / 10, hv1, HP.out, by omega, by omega, HD'.out, HC'.out, by go_num, rfl⟩
      case measure => simp [intOf]; omega
    · have hb : (v % 10 == 0) = false := by simp [h10]
      obtain ⟨hc', ht⟩ := hnz h10
      have hpow : (v.toNat : Int) < 10 ^ (k + 1) := by omega
      obtain ⟨hl, hpad⟩ := padded k v.toNat (by exact_mod_cast hpow)
      rw [Int.toNat_of_nonneg (by omega)] at hpad
      have HT : Hid (List.replicate (k + 1 - (dec v.toNat).length) 48 ++ dec v.toNat = D.take (cutK D 9)) := by show _ = _; rw [hc', ht]; exact hpad
      have hdig := adigits v.toNat w (by omega)
      rw [Int.toNat_of_nonneg (by omega)] at hdig
      clear hz hnz hg hvk hc' ht hpow hpad h10
      go_wp2_with fail
      refine hdig.mono ?_
      rintro e w1 ⟨rfl, hbel⟩
      clear hdig
      generalize dec v.toNat = dv at *
      go_wp2
      go_loop [4] (fun s => ∃ i : Nat, dv.length + i ≤ k + 1 ∧ s = .string (strOfNums (List.replicate i 48 ++ dv))) (fun s => match s with | .string b => k + 1 - b.size | _ => 0)
      case atStart => exact ⟨0, by omega, by simp⟩
      case round =>
        obtain ⟨i, hi, rfl⟩ := hrel
        have hsz : (strOfNums (List.replicate i 48 ++ dv)).size = i + dv.length := by rw [strOfNums_size]; simp
        have HE : Hid ((⟨#[48]⟩ : ByteArray) ++ strOfNums (List.replicate i 48 ++ dv) = strOfNums (List.replicate (i + 1) 48 ++ dv)) := by
          show _ = _
          rw [show (⟨#[48]⟩ : ByteArray) = strOfNums [48] from rfl, str_app, List.replicate_succ]
          rfl
        have HS' : Hid ((strOfNums (List.replicate (i + 1) 48 ++ dv)).size = i + 1 + dv.length) := by show _ = _; rw [strOfNums_size]; simp
        by_cases hlt : i + dv.length < k + 1
        · go_wp2
          go_round
          case rel => exact ⟨i + 1, by omega, by rw [HE.out]⟩
          case measure => rw [HE.out]; show k + 1 - (strOfNums (List.replicate (i + 1) 48 ++ dv)).size < k + 1 - (strOfNums (List.replicate i 48 ++ dv)).size; rw [HS'.out, hsz]; omega
        · have HI : Hid (i = k + 1 - dv.length) := by show _ = _; omega
          go_wp2
          go_ret
          refine ⟨?_, hbel⟩
          rw [← HT.out, ← HI.out]
          rfl

/-- One component's text. -/
def compT (v x : Int) (lead : Bool) : List Int := if v = 0 then [] else (if v < 0 ∧ lead = false then [45] else []) ++ dec v.natAbs ++ [x]

set_option maxRecDepth 100000 in
set_option maxHeartbeats 1000000 in
theorem acomp (v x : Int) (lead : Bool) (w : World) (h0 : -1000000000 < v) (h9 : v < 1000000000) :
    Calls Ybad.prog 11 #[.int .i64 v, .string (strOfNums [x]), .bool lead] w fun e w' => e = .returned (.string (strOfNums (compT v x lead))) ∧ Below w.heap.size w w' := by
  by_cases hz : v = 0
  · subst hz
    go_enter Ybad.func11, Ybad.ntmps11
    go_wp2
    go_ret
    exact ⟨rfl, Below.refl _ _⟩
  have hnz : (v == 0) = false := by simp [hz]
  have hdig := adigits v.natAbs w (by omega)
  have hs1 : (strOfNums (dec v.natAbs)).size ≤ 9 := by rw [strOfNums_size, dec_length]; exact nd9 _ (by omega)
  have hs2 : (strOfNums [x]).size = 1 := strOfNums_size _
  rcases Int.lt_or_lt_of_ne hz with hn | hp
  · have e : ((v.natAbs : Nat) : Int) = -v := by omega
    rw [e] at hdig
    rcases lead with _ | _
    · have HT : Hid ((⟨#[45]⟩ : ByteArray) ++ strOfNums (dec v.natAbs) ++ strOfNums [x] = strOfNums (compT v x false)) := by
        show _ = _
        rw [show (⟨#[45]⟩ : ByteArray) = strOfNums [45] from rfl, str_app, str_app, compT, if_neg hz, if_pos ⟨hn, rfl⟩]
      clear hz
      go_enter Ybad.func11, Ybad.ntmps11
      go_wp2_with fail
      refine hdig.mono ?_
      rintro e w1 ⟨rfl, hbel⟩
      go_wp2
      go_ret
      exact ⟨congrArg (fun s => Ending.returned (.string s)) HT.out, hbel⟩
    · have HT : Hid ((⟨#[]⟩ : ByteArray) ++ strOfNums (dec v.natAbs) ++ strOfNums [x] = strOfNums (compT v x true)) := by
        show _ = _
        rw [show (⟨#[]⟩ : ByteArray) = strOfNums [] from rfl, str_app, str_app, compT, if_neg hz, if_neg (by simp)]
      clear hz
      go_enter Ybad.func11, Ybad.ntmps11
      go_wp2_with fail
      refine hdig.mono ?_
      rintro e w1 ⟨rfl, hbel⟩
      go_wp2
      go_ret
      exact ⟨congrArg (fun s => Ending.returned (.string s)) HT.out, hbel⟩
  · have e : ((v.natAbs : Nat) : Int) = v := by omega
    rw [e] at hdig
    have HT : Hid ((⟨#[]⟩ : ByteArray) ++ strOfNums (dec v.natAbs) ++ strOfNums [x] = strOfNums (compT v x lead)) := by
      show _ = _
      rw [show (⟨#[]⟩ : ByteArray) = strOfNums [] from rfl, str_app, str_app, compT, if_neg hz, if_neg (by intro h; omega)]
    clear hz
    go_enter Ybad.func11, Ybad.ntmps11
    go_wp2_with fail
    refine hdig.mono ?_
    rintro e w1 ⟨rfl, hbel⟩
    go_wp2
    go_ret
    exact ⟨congrArg (fun s => Ending.returned (.string s)) HT.out, hbel⟩

end Go.Proofs.YbulkdobsDoor
