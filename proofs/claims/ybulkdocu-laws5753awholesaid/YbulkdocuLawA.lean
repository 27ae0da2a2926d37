/-
  S5753A: THE LAW, WALKED.
-/
import Derived.Test.YbulkdocuArgs
import Derived.Deep.LoopGhost
namespace Go.Proofs.Ybulkdocu
open Go.RowKit
set_option linter.unusedVariables false

theorem drewN_below {B : Nat} {a w : World} (h : Below B a w) (q : Nat) : Below B a (w.drewN q) := ⟨h.os, h.tape, h.output, h.size, h.block⟩
theorem keep_row {w w' : World} {B n sz : Nat} {t : TypeId} {v : Value} {xs : List Value} (h : w.ownsRow B t sz v n xs) (hb : Below w.heap.size w w') : w'.ownsRow B t sz v n xs :=
  h.kept (row := none) ⟨hb.os, hb.tape, hb.output, hb.size, fun k hk _ => hb.block k hk⟩ (by cases v.ownBlock <;> simp)

theorem own_strs {w : World} {B n m : Nat} {v : Value} {fs : List ByteArray} (h : w.ownsRow B 9 1 v n (fs.map Value.string)) (hm : m < n) : ∃ g cap, v = .slice (some ⟨g, 0, none⟩) n cap ∧ w.cell? ⟨g, m, none⟩ = some (.string (fs.getD m ByteArray.empty)) := by
  have hl : fs.length = n := by simpa using h.1
  rcases h.2 with ⟨rfl, h1⟩ | ⟨g, cap', cur, rfl, hrest⟩
  · omega
  · refine ⟨g, cap', rfl, ?_⟩
    have := h.cells (g := g) rfl m (.string (fs.getD m ByteArray.empty)) (by simp [List.getElem?_eq_getElem (show m < fs.length by omega)])
    rw [add_plain, Nat.zero_add] at this
    exact this

set_option maxHeartbeats 400000 in
set_option maxRecDepth 100000 in
theorem lawA_big (a0 a1 : Option Addr) (len0 cap0 len1 cap1 : Nat) (name : ByteArray) (dir size : Int) (w : World) (h : 1048576 < len1 ∨ 1048576 < len0 ∨ 1048576 < name.size) :
    Calls Yba.prog 3 #[.slice a0 len0 cap0, .slice a1 len1 cap1, .string name, .int .i64 dir, .int .i64 size] w fun e w' => e = .returned (.bool true) ∧ Below w.heap.size w w' := by
  by_cases h1 : 1048576 < len1
  · have hz : (1048576 : Int) < (len1 : Int) := by omega
    go_enter Yba.func3, Yba.ntmps3
    go_wp2
    go_ret
    exact ⟨rfl, Below.refl _ _⟩
  · have hz : decide ((1048576 : Int) < (len1 : Int)) = false := decide_eq_false (by omega)
    by_cases h2 : 1048576 < len0
    · have hz2 : (1048576 : Int) < (len0 : Int) := by omega
      go_enter Yba.func3, Yba.ntmps3
      go_wp2
      go_ret
      exact ⟨rfl, Below.refl _ _⟩
    · have hz2 : decide ((1048576 : Int) < (len0 : Int)) = false := decide_eq_false (by omega)
      have hz3 : (1048576 : Int) < (name.size : Int) := by omega
      go_enter Yba.func3, Yba.ntmps3
      go_wp2
      go_ret
      exact ⟨rfl, Below.refl _ _⟩

set_option maxHeartbeats 2000000 in
set_option maxRecDepth 100000 in
theorem lawA_main (a0 a1 : Option Addr) (len0 cap0 len1 cap1 : Nat) (bs : List Int) (fs : List ByteArray) (name : ByteArray) (dir size : Int) (w : World) (hB : Bts w a0 len0 cap0 bs) (hS : Sts w a1 len1 cap1 fs)
    (h1 : len1 ≤ 1048576) (h0 : len0 ≤ 1048576) (hn : name.size ≤ 1048576) (hdir : -9223372036854775808 ≤ dir ∧ dir ≤ 9223372036854775807) :
    Calls Yba.prog 3 #[.slice a0 len0 cap0, .slice a1 len1 cap1, .string name, .int .i64 dir, .int .i64 size] w fun e w' => e = .returned (.bool true) ∧ Below w.heap.size w w' := by
  have hz1 : decide ((1048576 : Int) < (len1 : Int)) = false := decide_eq_false (by omega)
  have hz2 : decide ((1048576 : Int) < (len0 : Int)) = false := decide_eq_false (by omega)
  have hz3 : decide ((1048576 : Int) < (name.size : Int)) = false := decide_eq_false (by omega)
  go_enter Yba.func3, Yba.ntmps3
  go_wp2_with fail
  go_loopg [11, 41] len1 (fun gk v11 v41 wx => ∃ (i : Nat) (t : Nat), i ≤ len1 ∧ gk = len1 - i ∧ v41 = .int .i64 i ∧ v11 = .int .i64 t ∧ t ≤ 2097152 ∧ w = wx ∧ ∀ j, j < i → (fs.getD j ByteArray.empty).size ≤ 1048576)
  case atStart => exact ⟨0, len0 + name.size, by omega, rfl, rfl, by go_num, by omega, rfl, fun j hj => by omega⟩
  case round =>
    obtain ⟨i, t, hi, rfl, rfl, rfl, ht, rfl, hall⟩ := hrel
    clear hz1 hz2 hz3
    by_cases hlt : i < len1
    · have hlz : (i : Int) < (len1 : Int) := by omega
      obtain ⟨b, off, rfl, hbl, hc⟩ := hS.get hlt
      have hci := hc i hlt
      have hsz := hS.at_size hlt
      clear hc
      obtain ⟨s, hs⟩ : ∃ s, s = fs.getD i ByteArray.empty := ⟨_, rfl⟩
      rw [← hs] at hci hsz
      have HS : Hid (s = fs.getD i ByteArray.empty) := hs
      have HALL : Hid (∀ j, j < i → (fs.getD j ByteArray.empty).size ≤ 1048576) := hall
      clear hs hall
      by_cases hbig : 1048576 < t + s.size
      · have hbz : (1048576 : Int) < (t : Int) + (s.size : Int) := by omega
        go_wp2
        go_ret
        exact ⟨rfl, Below.refl _ _⟩
      · have hbz : ¬ (1048576 : Int) < (t : Int) + (s.size : Int) := by omega
        go_wp2
        go_roundg (len1 - (i + 1))
        case rel =>
          refine ⟨i + 1, t + s.size, by omega, by omega, by go_num, by go_num, by omega, rfl, fun j hj => ?_⟩
          rcases Nat.lt_or_ge j i with h | h
          · exact HALL.out j h
          · obtain rfl : j = i := by omega
            rw [← HS.out]
            omega
        all_goals omega
    · obtain rfl : i = len1 := by omega
      go_upto_if 54 with fail
      go_cut [14] (fun v wx => w = wx ∧ ∃ d : Int, v = .int .i64 d ∧ (d < 0 ∨ ∃ m : Nat, d = m ∧ m < i))
      case first =>
        by_cases hd : dir < 0
        · go_wp2
          go_meet
          exact ⟨rfl, dir, rfl, .inl hd⟩
        · by_cases hl : i = 0
          · subst hl
            go_wp2
            go_meet
            exact ⟨rfl, -1, rfl, .inl (by decide)⟩
          · obtain ⟨m, rfl⟩ : ∃ m : Nat, dir = m := ⟨dir.toNat, by omega⟩
            have hlz : ((i : Int) == 0) = false := by simp; omega
            have hlz2 : ¬ (i : Int) = 0 := by omega
            have hmod := Nat.mod_lt m (show i > 0 by omega)
            go_wp2
            go_meet
            exact ⟨rfl, _, rfl, .inr ⟨m % i, by simp, hmod⟩⟩
      case rest =>
        obtain ⟨rfl, d, rfl, hd⟩ := hcut
        clear hlt ht hi
        go_wp2_with fail
        refine (hS.clone h1).mono ?_
        rintro e w1 ⟨k, rfl, hk, hb1⟩
        have hB1 := hB.kept (Nat.le_refl _) hb1
        have hS1 := hS.kept (Nat.le_refl _) hb1
        have hconv := hB1.conv
        obtain ⟨v0, w2, hr, hv0, hg2⟩ := hB1.app h0 22
        have hb2 : Below w1.heap.size w1 w2 := (Below.refl _ _).grown hg2 (Nat.le_refl _) (fun k h => by cases h)
        go_wp2_with (at_builtin; refine wpList_append_run rfl _ _ rfl rfl rfl hr ?_)
        go_wp2_with fail
        have hO : Own2 (w2.alloc (.cells #[.slice none 0 0, .slice a1 i cap1, .pointer none] 29)) w1.heap.size v0 len0 (Lib.strCells (strOfNums bs)) v0 len0 (Lib.strCells (strOfNums bs)) :=
          ⟨hv0.alloc _, hv0.alloc _, List.take_of_length_le (by rw [Lib.strCells_length, strOfNums_size, hB.eq]; exact Nat.le_refl _), Nat.le_refl _⟩
        have hb3 : Below w1.heap.size w1 (w2.alloc (.cells #[.slice none 0 0, .slice a1 i cap1, .pointer none] 29)) := hb2.alloc hb2.size _
        have hszb : (strOfNums bs).size ≤ 1048576 := by rw [strOfNums_size, hB.eq]; exact h0
        rcases hd with hd | ⟨m, rfl, hm⟩
        · have hp := path_neg (.pointer (some ⟨w2.heap.size, 0, none⟩)) w1.heap.size v0 v0 len0 len0 _ _ name d size _ hO hb3.size hd (by omega)
          unfold fileOf at hp
          refine hp.mono ?_
          rintro e w4 ⟨v', rfl, hO4, hb4⟩
          have hb5 := hb3.trans hb4
          clear hp hO hb3 hb4 hb2 hconv hr hg2 hv0
          have hB4 := hB1.kept (Nat.le_refl _) hb5
          have hS4 := hS1.kept (Nat.le_refl _) hb5
          have hk4 := keep_row hk hb5
          have hnow := hO4.now
          rw [← strCells_app] at hnow
          have hc1 := conv_own hnow
          have hc2 := conv_own hO4.old
          have hc3 := hB4.conv
          have hend : Below w.heap.size w w4 := hb1.trans (hb5.mono hb1.size)
          go_wp2_with fail
          refine (hS4.equal h1 hk4).mono ?_
          rintro e w5 ⟨rfl, q, rfl⟩
          go_wp2
          go_ret
          exact ⟨rfl, drewN_below hend q⟩
        · obtain ⟨kb, ko, rfl, hkbl, hkc⟩ := hS.get hm
          have hS3 := (hS1.kept (Nat.le_refl _) hb3)
          obtain ⟨kb', ko', ekb, _, hkc3⟩ := hS3.get hm
          simp only [Option.some.injEq, Addr.mk.injEq, and_true] at ekb
          obtain ⟨rfl, rfl⟩ := ekb
          have hdsz := hall m hm
          have hp := path_pos w2.heap.size kb ko i cap1 #[] w1.heap.size v0 v0 len0 len0 _ _ name (fs.getD m ByteArray.empty) m size _ hO hb3.size (by simp) (hkc3 m hm) hm h1 (by omega)
          unfold fileOf at hp
          refine hp.mono ?_
          rintro e w4 ⟨v', rfl, hO4, hb4⟩
          have hb5 := hb3.trans hb4
          clear hp hO hb3 hb4 hb2 hconv hr hg2 hv0 hkc hkc3 hS3
          have hB4 := hB1.kept (Nat.le_refl _) hb5
          have hS4 := hS1.kept (Nat.le_refl _) hb5
          have hk4 := keep_row hk hb5
          have hnow := hO4.now
          obtain ⟨g, cap', hkeq, hkc4⟩ := own_strs hk4 hm
          subst hkeq
          generalize hdn : fs.getD m ByteArray.empty = dn at *
          rw [show Lib.strCells (strOfNums bs) ++ (Lib.strCells dn ++ Value.int IntKind.u8 47 :: Lib.strCells name) = Lib.strCells (((strOfNums bs ++ dn) ++ ⟨#[47]⟩) ++ name) by
            rw [strCells_app, strCells_app, strCells_app, show Lib.strCells ⟨#[47]⟩ = [Value.int IntKind.u8 47] from rfl]
            simp] at hnow
          have hc1 := conv_own hnow
          have hc2 := conv_own hO4.old
          have hc3 := hB4.conv
          have hend : Below w.heap.size w w4 := hb1.trans (hb5.mono hb1.size)
          have hmz : (m : Int) < (i : Int) := by omega
          go_wp2_with fail
          refine (hS4.equal h1 hk4).mono ?_
          rintro e w5 ⟨rfl, q, rfl⟩
          go_wp2
          go_ret
          exact ⟨rfl, drewN_below hend q⟩
end Go.Proofs.Ybulkdocu
