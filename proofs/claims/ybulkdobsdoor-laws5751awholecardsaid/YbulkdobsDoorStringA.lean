/-
  S5751A: Duration.String, zzs5751abuild: THE WALKS.
-/
import Derived.Test.YbulkdobsDoorText
import Derived.Deep.RegionWith
namespace Go.Proofs.YbulkdobsDoor
open Go.RowKit

theorem slice_arr48 (A : Nat) (wx : World) : (Instr.sliceAt 33 (.pointer (some ⟨A, 0, none⟩)) none (some (.int .i64 0)) none).run Ybad.prog wx = .ok (.slice (some ⟨A, 0, none⟩) 0 48) wx := by
  have hal : Ybad.prog.arrayLen 33 = 48 := by kernel_rfl
  have hsz : (sizeOf (Ybad.prog.elem 33)).run Ybad.prog wx = .ok 1 wx := by kernel_rfl
  have ht : Ybad.prog.underlying 33 = some (.array (Ybad.prog.arrayLen 33) (Ybad.prog.elem 33)) := by kernel_rfl
  rw [run_sliceAt_array_h wx 33 ⟨A, 0, none⟩ ht .i64 0 (by omega) (by rw [hal]; omega), hsz, hal]
  simp [slicedAt, Result.andThen, Addr.add]

theorem string_zero (w : World) : Calls Ybad.prog 6 #[.agg #[.int .i64 0, .int .i64 0, .int .i64 0]] w fun e w' => e = .returned (.string (strOfNums [80, 84, 48, 83])) ∧ Below w.heap.size w w' := by
  go_enter Ybad.func6, Ybad.ntmps6
  go_wp2
  go_ret
  exact ⟨rfl, (Below.refl _ _).alloc (Nat.le_refl _) _⟩

set_option maxRecDepth 100000 in
set_option maxHeartbeats 1000000 in
theorem build_any (a b c dd n : Int) (w : World)
    (ed : b.tmod 1000000000 = dd) (en : c.tmod 86400000000000 = n) (bn : -86400000000000 < n ∧ n < 86400000000000) :
    Calls Ybad.prog 5 #[.int .i64 a, .int .i64 b, .int .i64 c] w fun e w' => e = .returned (.agg #[.int .i64 (a.tmod 12000000000), .int .i64 dd, .int .i64 (if (dd > 0 ∧ n < 0) ∨ (dd < 0 ∧ n > 0) then -n else n)]) ∧ Below w.heap.size w w' := by
  go_enter Ybad.func5, Ybad.ntmps5
  have ex : (dd > 0 ∧ n < 0) ∨ (dd < 0 ∧ n > 0) ∨ (dd > 0 ∧ ¬ n < 0) ∨ (dd < 0 ∧ ¬ n > 0) ∨ dd = 0 := by omega
  rcases ex with ⟨h1, h2⟩ | ⟨h1, h2⟩ | ⟨h1, h2⟩ | ⟨h1, h2⟩ | h1
  · rw [if_pos (.inl ⟨h1, h2⟩)]
    go_wp2
    exact bodyPost_ret (v := .agg #[.int .i64 (a.tmod 12000000000), .int .i64 dd, .int .i64 (-n)]) (by simp [results, Ybad.results5, go_sem]) rfl ⟨rfl, (Below.refl _ _).alloc (Nat.le_refl _) _⟩
  · rw [if_pos (.inr ⟨h1, h2⟩)]
    go_wp2
    exact bodyPost_ret (v := .agg #[.int .i64 (a.tmod 12000000000), .int .i64 dd, .int .i64 (-n)]) (by simp [results, Ybad.results5, go_sem]) rfl ⟨rfl, (Below.refl _ _).alloc (Nat.le_refl _) _⟩
  · rw [if_neg (by omega)]
    go_wp2
    exact bodyPost_ret (v := .agg #[.int .i64 (a.tmod 12000000000), .int .i64 dd, .int .i64 (n)]) (by simp [results, Ybad.results5, go_sem]) rfl ⟨rfl, (Below.refl _ _).alloc (Nat.le_refl _) _⟩
  · rw [if_neg (by omega)]
    go_wp2
    exact bodyPost_ret (v := .agg #[.int .i64 (a.tmod 12000000000), .int .i64 dd, .int .i64 (n)]) (by simp [results, Ybad.results5, go_sem]) rfl ⟨rfl, (Below.refl _ _).alloc (Nat.le_refl _) _⟩
  · rw [if_neg (by omega)]
    subst h1
    go_wp2
    exact bodyPost_ret (v := .agg #[.int .i64 (a.tmod 12000000000), .int .i64 0, .int .i64 n]) (by simp [results, Ybad.results5, go_sem]) rfl ⟨rfl, (Below.refl _ _).alloc (Nat.le_refl _) _⟩

set_option maxRecDepth 100000 in
set_option maxHeartbeats 1000000 in
theorem stringA (m dd n : Int) (lead : Bool) (w : World) (hm : -12000000000 < m ∧ m < 12000000000) (hd : -1000000000 < dd ∧ dd < 1000000000) (hn : -86400000000000 < n ∧ n < 86400000000000)
    (hnz : ¬ (m = 0 ∧ dd = 0 ∧ n = 0)) (hlead : (m ≤ 0 ∧ dd ≤ 0 ∧ n ≤ 0) ↔ lead = true)
    (M D N y mo h mi s f N1 N2 : Int) (eM : (if lead then -m else m) = M) (eD : (if lead then -dd else dd) = D) (eN : (if lead then -n else n) = N) (P : Parts M D N y mo h mi s f N1 N2)
    (K B : Nat → Int) (eK : at8 y mo 0 D h mi s 0 = K) (eB : at8 0 0 0 0 0 0 f 0 = B) (T0 : List Int) (eT0 : leadT lead ++ [80] = T0) (hroom : ∀ i, i < 7 → (txA T0 K B (i + 1)).length ≤ 48) (hroom6 : (txA T0 K B 6).length + (if wtA K B 6 = true then 14 else 15) ≤ 48)
    (tt : TypeId) (fr : Nat × Nat) (hun : w.heap[0]? = some (.cells uCells tt fr)) (htab : Lib.TabIs Ybad.prog w powName .u64 Lib.pow10Tab) (h2 : 2 < w.heap.size) :
    Calls Ybad.prog 6 #[.agg #[.int .i64 m, .int .i64 dd, .int .i64 n]] w fun e w' => e = .returned (.string (strOfNums (txA T0 K B 7))) ∧ Below w.heap.size w w' := by
  have hsl := fun wx => slice_arr48 (w.heap.size + 1) wx
  have hz : ¬ (m = 0 ∧ dd = 0 ∧ n = 0) := hnz
  have hcall : ∀ W, W.heap[0]? = some (.cells uCells tt fr) → Lib.TabIs Ybad.prog W powName .u64 Lib.pow10Tab → w.heap.size + 1 < W.heap.size → Txt W (w.heap.size + 1) 33 48 [] →
      Calls Ybad.prog 10 #[.agg #[.int .i64 m, .int .i64 dd, .int .i64 n], .slice (some ⟨w.heap.size + 1, 0, none⟩) 0 48] W fun e w' => e = .returned (.slice (some ⟨w.heap.size + 1, 0, none⟩) (txA T0 K B 7).length 48) ∧ Txt w' (w.heap.size + 1) 33 48 (txA T0 K B 7) ∧ Kept1 (w.heap.size + 1) W w' :=
    fun W u1 u2 u3 u4 => appText (w.heap.size + 1) 33 m dd n lead W u3 (by omega) u4 hm hd hn hnz hlead M D N y mo h mi s f N1 N2 eM eD eN P K B eK eB T0 eT0 hroom hroom6 tt fr u1 u2
  have HC : Hid (∀ W, W.heap[0]? = some (.cells uCells tt fr) → Lib.TabIs Ybad.prog W powName .u64 Lib.pow10Tab → w.heap.size + 1 < W.heap.size → Txt W (w.heap.size + 1) 33 48 [] →
      Calls Ybad.prog 10 #[.agg #[.int .i64 m, .int .i64 dd, .int .i64 n], .slice (some ⟨w.heap.size + 1, 0, none⟩) 0 48] W fun e w' => e = .returned (.slice (some ⟨w.heap.size + 1, 0, none⟩) (txA T0 K B 7).length 48) ∧ Txt w' (w.heap.size + 1) 33 48 (txA T0 K B 7) ∧ Kept1 (w.heap.size + 1) W w') := hcall
  clear hcall hnz hlead eM eD eN P eK eB eT0 hroom hroom6
  generalize txA T0 K B 7 = TX at *
  go_enter Ybad.func6, Ybad.ntmps6
  go_upto_region 1 with fail
  go_cut [6] (fun c wx => c = .bool false ∧ (w.alloc (.cells #[.int .i64 m, .int .i64 dd, .int .i64 n] 23)) = wx)
  case first =>
    by_cases h1 : m = 0
    · have b1 : (m == 0) = true := by simp [h1]
      by_cases h2 : dd = 0
      · have b2 : (dd == 0) = true := by simp [h2]
        have b3 : (n == 0) = false := by
          simp; intro h3; exact hz ⟨h1, h2, h3⟩
        clear h2 h1 hz
        go_wp2
        go_meet
        exact ⟨rfl, rfl⟩
      · have b2 : (dd == 0) = false := by simp [h2]
        clear h2 h1 hz
        go_wp2
        go_meet
        exact ⟨rfl, rfl⟩
    · have b1 : (m == 0) = false := by simp [h1]
      clear h1 hz
      go_wp2
      go_meet
      exact ⟨rfl, rfl⟩
  case rest =>
    obtain ⟨rfl, rfl⟩ := hcut
    clear hz
    go_wp2_with fail
    generalize hw2 : (w.alloc (Obj.cells #[.int .i64 m, .int .i64 dd, .int .i64 n] 23)).alloc (Obj.cells _ 33) = w2 at *
    have hx0 : w2.cell? ⟨w.heap.size, 0, none⟩ = some (.int .i64 m) := by rw [← hw2]; simp
    have hx1 : w2.cell? ⟨w.heap.size, 1, none⟩ = some (.int .i64 dd) := by rw [← hw2]; simp
    have hx2 : w2.cell? ⟨w.heap.size, 2, none⟩ = some (.int .i64 n) := by rw [← hw2]; simp
    have hT2 : Txt w2 (w.heap.size + 1) 33 48 [] := by
      rw [← hw2]
      have h := heap_alloc_new (w.alloc (Obj.cells #[.int .i64 m, .int .i64 dd, .int .i64 n] 23)) (Obj.cells (bts (List.replicate 48 0)).toArray 33)
      rw [show (w.alloc (Obj.cells #[.int .i64 m, .int .i64 dd, .int .i64 n] 23)).heap.size = w.heap.size + 1 by simp] at h
      exact Txt.of_row (L := List.replicate 48 0) h
    have hB2 : Below w.heap.size w w2 := by rw [← hw2]; exact ((Below.refl _ _).alloc (Nat.le_refl _) _).alloc (by simp) _
    have hun2 : w2.heap[0]? = some (.cells uCells tt fr) := (hB2.block 0 (by omega)).trans hun
    have htab2 : Lib.TabIs Ybad.prog w2 powName .u64 Lib.pow10Tab := by
      rw [← hw2]; exact Lib.tabIs_alloc (Lib.tabIs_alloc htab _) _
    have hsz2 : w.heap.size + 1 < w2.heap.size := hT2.lt
    clear hw2 hun htab
    go_region_with (go_at_call 10; refine (HC.out _ (by exact hun2) (by exact htab2) (by exact hsz2) (by exact hT2)).mono ?_; rintro e w3 ⟨rfl, hT3, hk3⟩; have hstr := hT3.str _ rfl)
    all_goals
      go_wp2
      go_ret
      exact ⟨rfl, Kept1.below hB2.drew hk3 hB2.size (by omega)⟩

end Go.Proofs.YbulkdobsDoor
