/-
  S5753B: THE TWELVE NAMES, BY THEIR KEYS; HOW THEY ARE COMPARED.
-/
import Derived.Test.YbulkdocuArgs
import Derived.Deep.LoopGhost
import Derived.Deep.QuietTactic
import Derived.Stop.BytesEq
import Derived.Sort.Grow
import Derived.Deep.Draws
import Derived.Laws.StructEq
namespace Go.Proofs.Ybulkdocu
open Go.RowKit Go.Sort
open Extern.Stop (cell)
set_option linter.unusedVariables false

def cmp3 (x y : Int) : Int := if x < y then -1 else if y < x then 1 else 0

/-- The key of a byte: the twelve names in their order. -/
def keyOf (v : Nat) : Nat := v % 6 * 2 + v / 6 % 2
theorem keyOf_lt (v : Nat) : keyOf v < 12 := by unfold keyOf; omega

/-- A name's byte at place j, by its key. -/
def nmAt (k j : Nat) : Nat := if j = 0 then k / 2 else if j = 1 then k % 2 else 0
def nameB (k : Nat) : List UInt8 := [UInt8.ofNat (k / 2), UInt8.ofNat (k % 2), 0, 0, 0, 0, 0, 0, 0, 0, 0, 0, 0, 0, 0, 0]
def nameL (k : Nat) : List Value := (nameB k).map cell
def nameArr (k : Nat) : Array Value := (nameL k).toArray
def nameV (k : Nat) : Value := .agg (nameArr k)

theorem nameL_length (k : Nat) : (nameL k).length = 16 := rfl
theorem nameArr_eq (k : Nat) (h : k < 12) : nameArr k = #[.int .u8 (k / 2 : Nat), .int .u8 (k % 2 : Nat), .int .u8 0, .int .u8 0, .int .u8 0, .int .u8 0, .int .u8 0, .int .u8 0, .int .u8 0, .int .u8 0, .int .u8 0, .int .u8 0, .int .u8 0, .int .u8 0, .int .u8 0, .int .u8 0] := by
  have h1 : (UInt8.ofNat (k / 2)).toNat = k / 2 := by simp; omega
  have h2 : (UInt8.ofNat (k % 2)).toNat = k % 2 := by simp; omega
  simp only [nameArr, nameL, nameB, List.map_cons, List.map_nil, cell, h1, h2]
  rfl
theorem nameL_get (k j : Nat) (h : k < 12) (hj : j < 16) : (nameL k)[j]? = some (.int .u8 (nmAt k j : Nat)) := by
  have h1 : (UInt8.ofNat (k / 2)).toNat = k / 2 := by simp; omega
  have h2 : (UInt8.ofNat (k % 2)).toNat = k % 2 := by simp; omega
  simp only [nameL, nameB, List.map_cons, List.map_nil, cell, h1, h2]
  match j, hj with
  | 0, _ => rfl
  | 1, _ => rfl
  | 2, _ | 3, _ | 4, _ | 5, _ | 6, _ | 7, _ | 8, _ | 9, _ | 10, _ | 11, _ | 12, _ | 13, _ | 14, _ | 15, _ => rfl
  | n + 16, h => omega
theorem nameL_one (k : Nat) : ∀ u ∈ nameL k, u.oneCell' = true := by
  intro u hu
  simp only [nameL, List.mem_map] at hu
  obtain ⟨b, _, rfl⟩ := hu
  rfl
theorem nameB_inj {k l : Nat} (hk : k < 12) (hl : l < 12) : (nameB k == nameB l) = decide (k = l) := by
  by_cases h : k = l
  · subst h
    simp
  · have : nameB k ≠ nameB l := by
      intro e
      simp only [nameB, List.cons.injEq] at e
      have e1 := congrArg UInt8.toNat e.1
      have e2 := congrArg UInt8.toNat e.2.1
      simp at e1 e2
      omega
    simp [this, h]

theorem eql_name (k l : Nat) (hk : k < 12) (hl : l < 12) (w : World) : (binOp .eql 40 (nameV k) (nameV l)).run Yba.prog w = .ok (.bool (decide (k = l))) w := by
  rw [← nameB_inj hk hl]
  exact run_eql_bytes w 40 5 16 Yba.underlying40 Yba.underlying5 Yba.sizeOf5 (nameB k) (nameB l) rfl rfl
theorem eqGuard_name : Yba.prog.eqGuardType Yba.prog.depth 40 = false := by kernel_rfl

/-- What a call leaves that lays blocks and draws, and no more. -/
def Grew (w w' : World) : Prop := ∃ q os, w' = grow (w.drewN q) os
theorem drewN_drewN' (w : World) (q r : Nat) : (w.drewN q).drewN r = w.drewN (q + r) := by simp [World.drewN, Nat.add_assoc]
theorem grow_drewN (w : World) (q : Nat) (os : Array Obj) : (grow w os).drewN q = grow (w.drewN q) os := rfl
theorem Grew.refl (w : World) : Grew w w := ⟨0, #[], by simp [World.drewN]⟩
theorem Grew.trans {a b c : World} (h : Grew a b) (k : Grew b c) : Grew a c := by
  obtain ⟨q, os, rfl⟩ := h
  obtain ⟨r, os', rfl⟩ := k
  exact ⟨q + r, os ++ os', by rw [grow_drewN, grow_grow, drewN_drewN']⟩
theorem Grew.alloc {a w : World} (h : Grew a w) (o : Obj) : Grew a (w.alloc o) := h.trans ⟨0, #[o], by rw [alloc_eq_grow]; rfl⟩
theorem Grew.drewN {a w : World} (h : Grew a w) (q : Nat) : Grew a (w.drewN q) := h.trans ⟨q, #[], by simp⟩
theorem Grew.drew {a w : World} (h : Grew a w) : Grew a w.drew := h.drewN 1
theorem Grew.below {w w' : World} (h : Grew w w') : Below w.heap.size w w' := by
  obtain ⟨q, os, rfl⟩ := h
  refine ⟨rfl, rfl, rfl, by simp [grow, World.drewN], fun k hk => ?_⟩
  simp [grow, World.drewN, Array.getElem?_append, hk]

set_option maxRecDepth 100000 in
/-- cmp.Compare at bytes. -/
theorem cmpB (x y : Int) (w : World) : Calls Yba.prog 37 #[.int .u8 x, .int .u8 y] w fun e w' => e = .returned (.int .i64 (cmp3 x y)) ∧ w' = w := by
  unfold cmp3
  by_cases h1 : x < y
  · go_enter Yba.func37, Yba.ntmps37
    go_wp2
    go_ret
    exact ⟨by simp, rfl⟩
  · by_cases h2 : y < x
    · go_enter Yba.func37, Yba.ntmps37
      go_wp2
      go_ret
      exact ⟨by simp, rfl⟩
    · go_enter Yba.func37, Yba.ntmps37
      go_wp2
      go_ret
      exact ⟨by simp, rfl⟩
set_option maxRecDepth 100000 in
/-- cmp.Compare at int. -/
theorem cmpI (x y : Int) (w : World) : Calls Yba.prog 19 #[.int .i64 x, .int .i64 y] w fun e w' => e = .returned (.int .i64 (cmp3 x y)) ∧ w' = w := by
  unfold cmp3
  by_cases h1 : x < y
  · go_enter Yba.func19, Yba.ntmps19
    go_wp2
    go_ret
    exact ⟨by simp, rfl⟩
  · by_cases h2 : y < x
    · go_enter Yba.func19, Yba.ntmps19
      go_wp2
      go_ret
      exact ⟨by simp, rfl⟩
    · go_enter Yba.func19, Yba.ntmps19
      go_wp2
      go_ret
      exact ⟨by simp, rfl⟩

/-- The first place at which two rows part. -/
def Parts (X Y : Nat → Int) (r : Int) : Prop := (r = 0 ∧ ∀ j, j < 16 → X j = Y j) ∨ ∃ i, i < 16 ∧ (∀ j, j < i → X j = Y j) ∧ X i ≠ Y i ∧ r = cmp3 (X i) (Y i)

set_option maxHeartbeats 400000 in
set_option maxRecDepth 100000 in
/-- slices.Compare at two rows of sixteen bytes. -/
theorem cmpS (b1 b2 : Nat) (X Y : Nat → Int) (w : World) (h1 : ∀ j, j < 16 → w.cell? ⟨b1, j, none⟩ = some (.int .u8 (X j))) (h2 : ∀ j, j < 16 → w.cell? ⟨b2, j, none⟩ = some (.int .u8 (Y j))) :
    Calls Yba.prog 25 #[.slice (some ⟨b1, 0, none⟩) 16 16, .slice (some ⟨b2, 0, none⟩) 16 16] w fun e w' => (∃ r, e = .returned (.int .i64 r) ∧ Parts X Y r) ∧ w' = w := by
  go_enter Yba.func25, Yba.ntmps25
  go_wp2_with fail
  go_loopg [11] 16 (fun gk v11 wx => ∃ i : Nat, i ≤ 16 ∧ gk = 16 - i ∧ v11 = .int .i64 i ∧ w = wx ∧ ∀ j, j < i → X j = Y j)
  case atStart => exact ⟨0, by omega, rfl, rfl, rfl, fun j hj => by omega⟩
  case round =>
    obtain ⟨i, hi, rfl, rfl, rfl, hall⟩ := hrel
    by_cases hlt : i < 16
    · have hiz : (i : Int) < 16 := by omega
      have c1 := h1 i hlt
      have c2 := h2 i hlt
      have HALL : Hid (∀ j, j < i → X j = Y j) := hall
      clear hall hi h1 h2
      generalize hx : X i = x at *
      generalize hy : Y i = y at *
      have HX : Hid (X i = x ∧ Y i = y) := ⟨hx, hy⟩
      clear hx hy
      go_wp2_with fail
      refine (cmpB x y w).mono ?_
      rintro e w' ⟨rfl, rfl⟩
      by_cases hxy : x = y
      · have h0 : cmp3 x y = 0 := by unfold cmp3; split <;> (try split) <;> omega
        rw [h0]
        go_wp2
        go_roundg (16 - (i + 1))
        case rel =>
          refine ⟨i + 1, by omega, by omega, by go_num, rfl, fun j hj => ?_⟩
          rcases Nat.lt_or_ge j i with h | h
          · exact HALL.out j h
          · obtain rfl : j = i := by omega
            rw [HX.out.1, HX.out.2, hxy]
        all_goals omega
      · have h0 : ¬ cmp3 x y = 0 := by unfold cmp3; split <;> (try split) <;> omega
        have h0' : (cmp3 x y == 0) = false := by simpa using h0
        obtain ⟨r, hr⟩ : ∃ r, r = cmp3 x y := ⟨_, rfl⟩
        rw [← hr] at h0 h0' ⊢
        have HR : Hid (r = cmp3 x y) := hr
        clear hr
        go_wp2
        go_ret
        exact ⟨⟨r, rfl, .inr ⟨i, hlt, HALL.out, by rw [HX.out.1, HX.out.2]; exact hxy, by rw [HX.out.1, HX.out.2]; exact HR.out⟩⟩, rfl⟩
    · obtain rfl : i = 16 := by omega
      go_wp2
      go_ret
      exact ⟨⟨0, rfl, .inl ⟨rfl, hall⟩⟩, rfl⟩

theorem parts_name {k l : Nat} (hk : k < 12) (hl : l < 12) {r : Int} (h : Parts (fun j => (nmAt k j : Nat)) (fun j => (nmAt l j : Nat)) r) : r = cmp3 k l := by
  rcases h with ⟨rfl, h⟩ | ⟨i, hi, hall, hne, rfl⟩
  · have h0 := h 0 (by omega)
    have h1 := h 1 (by omega)
    simp [nmAt] at h0 h1
    have : k = l := by omega
    subst this
    simp [cmp3]
  · match i with
    | 0 =>
      simp [nmAt] at hne ⊢
      unfold cmp3
      split <;> split <;> (try split) <;> (try split) <;> omega
    | 1 =>
      have h0 := hall 0 (by omega)
      simp [nmAt] at hne h0 ⊢
      unfold cmp3
      split <;> split <;> (try split) <;> (try split) <;> omega
    | i + 2 => simp [nmAt] at hne

/-- Of two boxes that hold names. -/
theorem cmpN (b1 b2 k l : Nat) (hk : k < 12) (hl : l < 12) (w : World) (h1 : ∀ j v, (nameL k)[j]? = some v → w.cell? ⟨b1, j, none⟩ = some v) (h2 : ∀ j v, (nameL l)[j]? = some v → w.cell? ⟨b2, j, none⟩ = some v) :
    Calls Yba.prog 25 #[.slice (some ⟨b1, 0, none⟩) 16 16, .slice (some ⟨b2, 0, none⟩) 16 16] w fun e w' => e = .returned (.int .i64 (cmp3 k l)) ∧ w' = w := by
  refine (cmpS b1 b2 (fun j => (nmAt k j : Nat)) (fun j => (nmAt l j : Nat)) w (fun j hj => h1 j _ (nameL_get k j hk hj)) (fun j hj => h2 j _ (nameL_get l j hl hj))).mono fun e w' ⟨⟨r, he, hp⟩, hw⟩ => ⟨?_, hw⟩
  rw [he, parts_name hk hl hp]

theorem box_cells (w : World) (k : Nat) : ∀ j v, (nameL k)[j]? = some v → (w.alloc (.cells (nameArr k) 40)).cell? ⟨w.heap.size, j, none⟩ = some v := by
  intro j v h
  rw [World.cell?, heap_alloc_self]
  simpa [nameArr] using h
theorem old_cell {w : World} {a : Addr} {v : Value} (h : w.cell? a = some v) (o : Obj) : (w.alloc o).cell? a = some v := by
  have hb : Below w.heap.size w (w.alloc o) := (Below.refl _ _).alloc (Nat.le_refl _) o
  rw [hb.cell (World.block_lt_of_cell? _ _ h)]
  exact h

set_option maxHeartbeats 400000 in
set_option maxRecDepth 100000 in
/-- Name.Compare. -/
theorem compare (k l : Nat) (hk : k < 12) (hl : l < 12) (w : World) : Calls Yba.prog 18 #[nameV k, nameV l] w fun e w' => e = .returned (.int .i64 (cmp3 k l)) ∧ Grew w w' := by
  unfold nameV
  have h1 : ∀ j v, (nameL k)[j]? = some v → ((w.alloc (.cells (nameArr k) 40)).alloc (.cells (nameArr l) 40)).cell? ⟨w.heap.size, j, none⟩ = some v := fun j v h => old_cell (box_cells w k j v h) _
  have h2 : ∀ j v, (nameL l)[j]? = some v → ((w.alloc (.cells (nameArr k) 40)).alloc (.cells (nameArr l) 40)).cell? ⟨w.heap.size + 1, j, none⟩ = some v := fun j v h => by
    have := box_cells (w.alloc (.cells (nameArr k) 40)) l j v h
    rw [show (w.alloc (.cells (nameArr k) 40)).heap.size = w.heap.size + 1 by simp] at this
    exact this
  have HG : Hid (Grew w ((w.alloc (.cells (nameArr k) 40)).alloc (.cells (nameArr l) 40))) := ((Grew.refl w).alloc _).alloc _
  go_enter Yba.func18, Yba.ntmps18
  go_wp2_with fail
  go_quiet (first | (go_at_call 25; refine Calls.quiet_of_same (cmpN w.heap.size (w.heap.size + 1) k l hk hl _ ?_ ?_); exact h1; exact h2))
  go_wp2
  go_ret
  exact ⟨rfl, HG.out.drewN _⟩

end Go.Proofs.Ybulkdocu
