/-
  S5747B: THE WALK OF THE LAW.
-/
import Derived.Test.YbulkdnzoSetOf
import Derived.OpenShut
import Derived.BigQuiet
import Derived.Deep.QuietTactic
import Derived.WalkLawsBesides
import Derived.WalkSpells
namespace Go.Proofs.Ybulkdnzo.lawS5747BWhole
open Go.RowKit

theorem Yba.info24 : (Yba.prog.info? 24).map (fun i => (i.zero, i.size, i.bytes)) = some (some (.int .u8 0), 1, 1) := by kernel_rfl

/-- The row 'ms' behind k rounds of the first loop. -/
def msTo (zs : List Int) (len k : Nat) : List Value := (zs.take k).map (Value.int .u8) ++ List.replicate (len - k) (Value.int .u8 0)
theorem msTo_zero (zs : List Int) (len : Nat) : msTo zs len 0 = List.replicate len (Value.int .u8 0) := by simp [msTo]
theorem msTo_step (zs : List Int) (len k : Nat) (hk : k < len) (hz : len ≤ zs.length) : (msTo zs len k).set k (.int .u8 (zs[k]?.getD 0)) = msTo zs len (k + 1) := by
  have hkz : k < zs.length := by omega
  have e : len - k = (len - (k + 1)) + 1 := by omega
  have hl : ((zs.take k).map (Value.int .u8)).length = k := by simp; omega
  unfold msTo
  rw [e, List.replicate_succ, List.set_append_right _ _ (by omega), hl, Nat.sub_self, List.set_cons_zero, List.take_succ_eq_append_getElem hkz, List.map_append, List.append_assoc]
  simp only [List.getElem?_eq_getElem hkz, List.map_cons, List.map_nil, List.cons_append, List.nil_append, Option.getD_some]
theorem msTo_at (zs : List Int) (len i : Nat) (hi : i < len) (hz : len ≤ zs.length) : (msTo zs len len)[i]? = some (.int .u8 (zs.getD i 0)) := by
  have hiz : i < zs.length := by omega
  simp [msTo, hi, List.getElem?_eq_getElem hiz]

theorem msTo_next (zs : List Int) (len k : Nat) (hk : k < len) (hz : len ≤ zs.length) : (msTo zs len k)[k]? = some (.int .u8 0) := by
  have hl : ((zs.take k).map (Value.int .u8)).length = k := by simp; omega
  unfold msTo
  rw [List.getElem?_append_right (by omega), hl, Nat.sub_self, List.getElem?_replicate, if_pos (by omega)]

theorem walk_long (a0 : Option Addr) (len0 cap0 : Nat) (w : World) (h : 1048576 < len0) :
    Calls Yba.prog 3 #[.slice a0 len0 cap0] w fun e w' => e = .returned (.bool true) ∧ Below w.heap.size w w' := by
  go_enter Yba.func3, Yba.ntmps3
  go_wp2
  go_ret
  exact ⟨rfl, Below.refl _ _⟩

set_option maxHeartbeats 1000000 in
set_option maxRecDepth 100000 in
theorem walk_some (b off : Nat) (sp : Option Nat) (len cap : Nat) (zs : List Int) (w : World) (hl : len ≤ 1048576) (hz : len ≤ zs.length) (hu : ∀ j : Nat, 0 ≤ zs[j]?.getD 0 ∧ zs[j]?.getD 0 ≤ 255)
    (hbl : 0 < len → b < w.heap.size)
    (hc : ∀ i, i < len → sp = none ∧ w.cell? ⟨b, off + i, none⟩ = some (.int .u8 (zs.getD i 0))) :
    Calls Yba.prog 3 #[.slice (some ⟨b, off, sp⟩) len cap] w fun e w' => e = .returned (.bool true) ∧ Below w.heap.size w w' := by
  obtain ⟨i0, hi, hz0, hz1, hz2⟩ := info_parts Yba.info24
  have hnil := fun w : World => run_neq_slice_nil_any w 22 5 (some ⟨b, off, sp⟩) len cap 0 0 Yba.underlying22
  simp only [Option.isNone_some, Bool.not_false] at hnil
  have hd20 : decide ((1048576 : Int) < (len : Int)) = false := decide_eq_false (by omega)
  go_enter Yba.func3, Yba.ntmps3
  go_wp2_with (at_make; refine wpList_make_full _ rfl _ _ 23 rfl w.heap.size 24 i0 (.int .u8 0) 1 Yba.underlying23 hi hz0 hz1 _ _ _ _ len rfl rfl (by omega) (by omega) ?b2 ?b3 (Nat.le_refl _) ?_)
  case b2 => rw [hz2]; omega
  case b3 => unfold maxLen; omega
  intro w1 hown hgrow
  rw [toList_madeCells_one, ← msTo_zero zs] at hown
  have hb1 : Below w.heap.size w w1 := (Below.refl _ _).grown hgrow (Nat.le_refl _) (fun k h => by cases h)
  clear hgrow
  go_wp2
  go_loopw [4] (fun i wr => ∃ k : Nat, k ≤ len ∧ i = .int .i64 k ∧ wr.ownsRow w.heap.size 24 1 (.slice (some ⟨w.heap.size, 0, none⟩) len len) len (msTo zs len k) ∧ Below w.heap.size w wr) (fun i _ => len - (intOf i).toNat)
  case atStart => exact ⟨0, Nat.zero_le _, rfl, hown, hb1⟩
  case round =>
    clear hown hb1
    obtain ⟨k, hk, rfl, hown, hb⟩ := hrel
    by_cases hlt : k < len
    · obtain ⟨rfl, hcx0⟩ := hc k hlt
      have hcx : wr.cell? ⟨b, off + k, none⟩ = some (.int .u8 (zs.getD k 0)) := (hb.cell (by exact hbl (by omega))).trans hcx0
      have hd : wr.cell? ⟨w.heap.size, k, none⟩ = some (.int .u8 0) := (hown.cellAt k (by omega)).trans (msTo_next zs len k hlt hz)
      have hfr := hown.frozenAt k
      have hst := (hown.stored k (.int .u8 (zs[k]?.getD 0))).1
      rw [msTo_step zs len k hlt hz] at hst
      go_wp2
      go_roundw
      case rel => exact ⟨k + 1, by omega, by go_num, hst, hb.setCell (Nat.le_refl _) _⟩
      case measure => simp [intOf]; omega
    · obtain rfl : len = k := by omega
      go_wp2_with fail
      refine (setOf_any (some ⟨w.heap.size, 0, none⟩) len len zs _ hl hu ?_).mono ?_
      · intro i hi
        exact ⟨_, _, rfl, by rw [Nat.zero_add]; exact (hown.cellAt i (by omega)).trans (msTo_at zs len i hi hz)⟩
      rintro e w' ⟨rfl, rfl⟩
      have heq : (setTo zs len != maskTo (fun x => has zs x len) 8) = false := by rw [setTo_eq zs (fun j => (hu j).1) len]; simp
      have HE := heq
      go_wp2
      go_loop [6, 7, 8] (fun want weight sb => ∃ c : Nat, c ≤ 8 ∧ sb = .int .i64 c ∧ want = .int .u8 (maskTo (fun x => has zs x len) c) ∧ weight = .int .u8 (wt c)) (fun _ _ sb => 8 - (intOf sb).toNat)
      case atStart => exact ⟨0, by omega, rfl, rfl, rfl⟩
      case round =>
        obtain ⟨c, hc8, rfl, rfl, rfl⟩ := hrel
        by_cases hlt8 : c < 8
        · have hsum := sum_bd (fun x => has zs x len) c hlt8
          go_wp2
          go_loop [9, 10] (fun f i => ∃ k : Nat, k ≤ len ∧ i = .int .i64 k ∧ f = .bool false ∧ has zs c k = false) (fun _ i => len - (intOf i).toNat)
          case atStart => exact ⟨0, by omega, rfl, rfl, rfl⟩
          case round =>
            obtain ⟨k, hk, rfl, rfl, hno⟩ := hrel
            by_cases hlt : k < len
            · obtain ⟨rfl, hcx0⟩ := hc k hlt
              have hcx : wr.cell? ⟨b, off + k, none⟩ = some (.int .u8 (zs.getD k 0)) := (hb.cell (by exact hbl (by omega))).trans hcx0
              have huk := hu k
              have HN : Hid (has zs c k = false) := hno
              clear hno hc
              by_cases hit : (zs[k]?.getD 0 == (c : Int)) = true
              · have HH : Hid (has zs c len = true) := has_hit zs c k len hit hlt
                go_wp2
                go_round
                case rel => exact ⟨c + 1, by omega, by go_num, by rw [mask_on _ c hlt8 HH.out], by rw [wt_step]⟩
                case measure => simp [intOf]; omega
              · have hms : (zs[k]?.getD 0 == (c : Int)) = false := by simpa using hit
                have HH : Hid (has zs c (k + 1) = false) := has_miss zs c k HN.out hms
                clear hit
                go_wp2
                go_round
                case rel => exact ⟨k + 1, by omega, by go_num, rfl, HH.out⟩
                case measure => simp [intOf]; omega
            · obtain rfl : len = k := by omega
              have HH : Hid (has zs c len = false) := hno
              clear hno
              go_wp2
              go_round
              case rel => exact ⟨c + 1, by omega, by go_num, by rw [mask_off _ c HH.out], by rw [wt_step]⟩
              case measure => simp [intOf]; omega
        · obtain rfl : c = 8 := by omega
          go_wp2
          go_loopw [11] (fun i wq => ∃ k : Nat, k ≤ len ∧ i = .int .i64 k ∧ wq.ownsRow w.heap.size 24 1 (.slice (some ⟨w.heap.size, 0, none⟩) len len) len (msTo zs len len) ∧ Below w.heap.size w wq) (fun i _ => len - (intOf i).toNat)
          case atStart => exact ⟨0, Nat.zero_le _, rfl, hown, hb⟩
          case round =>
            clear hown hb
            obtain ⟨k, hk, rfl, hown, hb⟩ := hrel
            by_cases hlt : k < len
            · obtain ⟨rfl, hcx0⟩ := hc k hlt
              have hcx := (hb.cell (p := ⟨b, off + k, none⟩) (by exact hbl (by omega))).trans hcx0
              have hmx := (hown.cellAt k (by omega)).trans (msTo_at zs len k hlt hz)
              have hlt' : (k : Int) < (len : Int) := by omega
              clear hcx0 hc
              go_wp2
              go_quiet (fail)
              go_wp2
              go_roundw
              case rel => exact ⟨k + 1, by omega, by go_num, hown, below_drewN hb _⟩
              case measure => simp [intOf]; omega
            · go_wp2
              go_ret
              exact ⟨rfl, hb⟩

set_option maxHeartbeats 1000000 in
set_option maxRecDepth 100000 in
theorem walk_none (w : World) :
    Calls Yba.prog 3 #[.slice none 0 0] w fun e w' => e = .returned (.bool true) ∧ Below w.heap.size w w' := by
  have hnil := fun w : World => run_neq_slice_nil_any w 22 5 none 0 0 0 0 Yba.underlying22
  simp only [Option.isNone_none, Bool.not_true] at hnil
  go_enter Yba.func3, Yba.ntmps3
  go_wp2
  go_loop [4] (fun i => i = .int .i64 0) (fun _ => 0)
  case atStart => rfl
  case round =>
    obtain rfl := hrel
    go_wp2_with fail
    refine (setOf_any none 0 0 [] _ (by omega) (fun j => by simp) (fun i hi => absurd hi (Nat.not_lt_zero i))).mono ?_
    rintro e w' ⟨rfl, rfl⟩
    have heq : (setTo [] 0 != (0 : Int)) = false := rfl
    go_wp2
    go_loop [6, 7, 8] (fun want weight sb => ∃ c : Nat, c ≤ 8 ∧ sb = .int .i64 c ∧ want = .int .u8 0 ∧ weight = .int .u8 (wt c)) (fun _ _ sb => 8 - (intOf sb).toNat)
    case atStart => exact ⟨0, by omega, rfl, rfl, rfl⟩
    case round =>
      obtain ⟨c, hc8, rfl, rfl, rfl⟩ := hrel
      by_cases hlt8 : c < 8
      · have hwt := wt_bd c
        go_wp2
        go_loop [9, 10] (fun f i => i = .int .i64 0 ∧ f = .bool false) (fun _ _ => 0)
        case atStart => exact ⟨rfl, rfl⟩
        case round =>
          obtain ⟨rfl, rfl⟩ := hrel
          go_wp2
          go_round
          case rel => exact ⟨c + 1, by omega, by go_num, rfl, by rw [wt_step]⟩
          case measure => simp [intOf]; omega
      · obtain rfl : c = 8 := by omega
        go_wp2
        go_loop [11] (fun i => i = .int .i64 0) (fun _ => 0)
        case atStart => rfl
        case round =>
          obtain rfl := hrel
          go_wp2
          go_ret
          exact ⟨rfl, Below.refl _ _⟩

end Go.Proofs.Ybulkdnzo.lawS5747BWhole
