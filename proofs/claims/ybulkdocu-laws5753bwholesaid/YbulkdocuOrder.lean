/-
  S5753B: slices.SortFunc AT THIS CLOSURE: THE INDEXES IN THE ORDER OF THEIR NAMES.
-/
import Derived.Test.YbulkdocuFinder
import Derived.Test.YbulkdocuSort
namespace Go.Proofs.Ybulkdocu
open Go.RowKit Go.Sort
set_option linter.unusedVariables false
set_option linter.unusedSimpArgs false

theorem grown_sortWorld {α : Type} [Inhabited α] (enc : α → Value) (w : World) (blk off q : Nat) (d : Array α) (os : Array Obj) : w.grownBy (sortWorld enc w blk off q d os) (some blk) := by
  refine ⟨rfl, rfl, rfl, ?_, fun k hk hne => ?_⟩
  · simp [sortWorld, grow, putRow, mapBlock, Sort.ahead]
  · have : k ≠ blk := fun e => hne (by rw [e])
    simp [sortWorld, grow, putRow, mapBlock, Sort.ahead, Array.getElem?_append, hk, Array.getElem_modify, Ne.symm this]

theorem grown_cell {w w' : World} {rb : Nat} (hg : w.grownBy w' (some rb)) {a : Addr} {v : Value} (h : w.cell? a = some v) (hne : a.block ≠ rb) : w'.cell? a = some v := by
  rw [← h]
  exact World.cell?_of_block (w := w) (hg.block a.block (World.block_lt_of_cell? _ _ h) (fun e => hne (Option.some.inj e)))
theorem Arch.grown {w w' : World} {ab an nb n c rb : Nat} {K : List Nat} (h : Arch w ab an nb n c K) (hg : w.grownBy w' (some rb)) (h1 : ab ≠ rb) (h2 : an ≠ rb) (h3 : nb ≠ rb) : Arch w' ab an nb n c K :=
  ⟨grown_cell hg h.box h1, grown_cell hg h.names h2, fun i hi j v hj => grown_cell hg (h.row i hi j v hj) h3, h.key⟩

theorem cfK_neg (K : List Nat) (i j : Nat) : (cfK K i j < 0) ↔ (K.getD i 0 < K.getD j 0 ∨ (K.getD i 0 = K.getD j 0 ∧ i < j)) := by
  unfold cfK
  generalize K.getD i 0 = a
  generalize K.getD j 0 = b
  by_cases h : cmp3 (a : Nat) (b : Nat) = 0
  · rw [if_pos h]
    rw [cmp3_zero] at h
    rw [cmp3_neg]
    omega
  · rw [if_neg h, cmp3_neg]
    rw [cmp3_zero] at h
    omega
theorem swoK (K : List Nat) (n : Nat) : SWO (ltOf (fun x y : Fin n => cfK K x.val y.val)) where
  irrefl x := by unfold ltOf; simp only [decide_eq_false_iff_not, cfK_neg]; omega
  trans x y z h1 h2 := by unfold ltOf at *; simp only [decide_eq_true_eq, cfK_neg] at *; omega
  ntrans x y z h1 h2 := by unfold ltOf at *; simp only [decide_eq_false_iff_not, cfK_neg] at *; omega

/-- The indexes from m on, as the loop lays them. -/
def fromM (n m N : Nat) (h : m + N = n) : Array (Fin n) := Array.ofFn (n := N) fun t => ⟨m + t.val, by have := t.isLt; omega⟩
theorem fromM_size (n m N : Nat) (h : m + N = n) : (fromM n m N h).size = N := by simp [fromM]
theorem fromM_get (n m N : Nat) (h : m + N = n) [Inhabited (Fin n)] (t : Nat) (ht : t < N) : ((fromM n m N h)[t]!).val = m + t := by
  rw [getElem!_pos _ t (by rw [fromM_size]; exact ht)]
  simp [fromM]

theorem sorted_of (K : List Nat) (n m N : Nat) (h : m + N = n) [Inhabited (Fin n)] (d' : Array (Fin n)) (hp : PermIn 0 (fromM n m N h).size (fromM n m N h) d') (hs : SortedIn (ltOf (fun x y : Fin n => cfK K x.val y.val)) 0 (fromM n m N h).size d') :
    Sorted K m n N (fun t => (d'[t]!).val) := by
  have hsz : d'.size = N := by rw [hp.1, fromM_size]
  have hperm : d'.toList.Perm (fromM n m N h).toList := by
    have := hp.2.2
    rw [show d'.extract 0 (fromM n m N h).size = d' by rw [← hp.1]; simp, show (fromM n m N h).extract 0 (fromM n m N h).size = fromM n m N h by simp] at this
    exact this
  have hnd : (fromM n m N h).toList.Nodup := by
    rw [List.nodup_iff_pairwise_ne, List.pairwise_iff_getElem]
    intro i j hi hj hij e
    simp [fromM] at e
    omega
  have hnd' : d'.toList.Nodup := hperm.nodup_iff.2 hnd
  have hget : ∀ t, t < N → d'[t]! ∈ d'.toList := fun t ht => by
    rw [getElem!_pos d' t (by omega)]
    simp
  have hmem : ∀ t, t < N → m ≤ (d'[t]!).val := fun t ht => by
    have := hperm.mem_iff.1 (hget t ht)
    rw [List.mem_iff_getElem] at this
    obtain ⟨i, hi, e⟩ := this
    rw [← e]
    simp [fromM]
  refine ⟨fun i h1 h2 => ?_, hmem, fun t ht => (d'[t]!).isLt, fun a b hab hb => ?_⟩
  · have hm : (⟨i, h2⟩ : Fin n) ∈ d'.toList := by
      rw [hperm.mem_iff, List.mem_iff_getElem]
      refine ⟨i - m, by simp [fromM]; omega, ?_⟩
      apply Fin.ext
      simp [fromM]
      omega
    rw [List.mem_iff_getElem] at hm
    obtain ⟨t, ht, e⟩ := hm
    refine ⟨t, by simp at ht; omega, ?_⟩
    rw [getElem!_pos d' t (by simpa using ht)]
    simp at e
    rw [e]
  · have h1 := hs a b (Nat.zero_le _) hab (by rw [fromM_size]; exact hb)
    unfold ltOf at h1
    simp only [decide_eq_false_iff_not, cfK_neg] at h1
    have hne : (d'[a]!).val ≠ (d'[b]!).val := by
      intro e
      rw [getElem!_pos d' a (by omega), getElem!_pos d' b (by omega)] at e
      have e2 := Fin.ext e
      have := (List.nodup_iff_pairwise_ne.1 hnd')
      rw [List.pairwise_iff_getElem] at this
      exact this a b (by simp; omega) (by simp; omega) hab (by simpa using e2)
    omega

theorem enters16 : ∀ args w, (callFunc 16 args).run Yba.prog w = .ok (.enter 16 args) w := enters_of Yba.func16 (by kernel_rfl) rfl

set_option maxRecDepth 100000 in
theorem insNone (rb cap : Nat) (fv : Value) (w : World) : Calls Yba.prog 27 #[.slice (some ⟨rb, 0, none⟩) 0 cap, .int .i64 0, .int .i64 0, fv] w fun e w' => e = .returned (.tuple #[]) ∧ w' = w := by
  go_enter Yba.func27, Yba.ntmps27
  go_wp2
  refine wp_loop_rounds 1 ?_
  rw [rounds_succ]
  go_wp2
  go_end0
  exact ⟨rfl, rfl⟩
set_option maxRecDepth 100000 in
theorem pdqNone (rb cap : Nat) (l : Int) (fv : Value) (w : World) : Calls Yba.prog 23 #[.slice (some ⟨rb, 0, none⟩) 0 cap, .int .i64 0, .int .i64 0, .int .i64 l, fv] w fun e w' => e = .returned (.tuple #[]) ∧ w' = w := by
  go_enter Yba.func23, Yba.ntmps23
  go_wp2_with fail
  refine wp_loop_rounds 1 ?_
  rw [rounds_succ]
  go_wp2_with fail
  refine (insNone rb cap fv w).mono ?_
  rintro e w' ⟨rfl, rfl⟩
  go_wp2
  exact bodyPost_ret (v := .tuple #[]) (by simp [results, Yba.results23, go_sem]) rfl ⟨rfl, rfl⟩
set_option maxRecDepth 100000 in
/-- Of no element. -/
theorem sortNone (rb cap ab : Nat) (w : World) : Calls Yba.prog 15 #[.slice (some ⟨rb, 0, none⟩) 0 cap, .func (.func 16) #[] #[.pointer (some ⟨ab, 0, none⟩)]] w fun e w' => e = .returned (.tuple #[]) ∧ w' = w := by
  have hl := Yba.bits_Len 0 w (by decide) (by decide)
  go_enter Yba.func15, Yba.ntmps15
  go_wp2_with fail
  refine hl.mono ?_
  rintro e w' ⟨rfl, rfl⟩
  go_wp2_with fail
  refine (pdqNone rb cap _ _ w').mono ?_
  rintro e w' ⟨rfl, rfl⟩
  go_wp2
  go_end0
  exact ⟨rfl, rfl⟩

/-- THE SORT. -/
theorem sortIt (ab an nb n c rb N m : Nat) (K : List Nat) (w : World) (hA : Arch w ab an nb n c K) (hrow : ∀ t, t < N → w.cell? ⟨rb, t, none⟩ = some (.int .i64 (m + t : Nat)) ∧ w.frozen? ⟨rb, t, none⟩ = false) (hN : m + N = n) (hn : n ≤ 4096)
    (h1 : ab ≠ rb) (h2 : an ≠ rb) (h3 : nb ≠ rb) (hrb : rb < w.heap.size) :
    Calls Yba.prog 15 #[.slice (some ⟨rb, 0, none⟩) N N, .func (.func 16) #[] #[.pointer (some ⟨ab, 0, none⟩)]] w fun e w' => e = .returned (.tuple #[]) ∧ ∃ D, Row w' rb N n D ∧ Sorted K m n N D ∧ w.grownBy w' (some rb) := by
  rcases Nat.eq_zero_or_pos N with hz | hz
  · subst hz
    refine (sortNone rb 0 ab w).mono fun e w' ⟨he, hw⟩ => ?_
    subst hw
    exact ⟨he, fun t => 0, ⟨fun t ht => by omega, fun t ht => by omega⟩, ⟨fun i g1 g2 => by omega, fun t ht => by omega, fun t ht => by omega, fun a b g1 g2 => by omega⟩, ⟨rfl, rfl, rfl, Nat.le_refl _, fun _ _ _ => rfl⟩⟩
  · haveI : Inhabited (Fin n) := ⟨⟨0, by omega⟩⟩
    have hsz := fromM_size n m N hN
    have hc := Yba.slices_SortFunc (fun x : Fin n => Value.int .i64 (x.val : Nat)) (fun _ => rfl) (fun x y : Fin n => cfK K x.val y.val) (swoK K n) 16 #[.pointer (some ⟨ab, 0, none⟩)] rb 0 N (fromM n m N hN) w enters16
      (fun q os dk hdk x y => ask16 ab an nb n c x.val y.val K _ (hA.grown (grown_sortWorld _ _ _ _ _ _ _) h1 h2 h3) x.isLt y.isLt hn)
      (fun j hj => by rw [hsz] at hj; rw [Nat.zero_add]; show w.cell? ⟨rb, j, none⟩ = some (Value.int .i64 (((fromM n m N hN)[j]!).val : Nat)) ∧ w.frozen? ⟨rb, j, none⟩ = false; rw [fromM_get n m N hN j hj]; exact hrow j hj) hrb (by omega)
    rw [hsz] at hc
    refine hc.mono fun e w' ⟨he, d', q, os, hp, hs, hw⟩ => ⟨he, fun t => (d'[t]!).val, ?_, sorted_of K n m N hN d' (by rw [hsz]; exact hp) (by rw [hsz]; exact hs), ?_⟩
    · subst hw
      have hH : Holds (fun x : Fin n => Value.int .i64 (x.val : Nat)) w rb 0 (fromM n m N hN) := fun j hj => by rw [hsz] at hj; rw [Nat.zero_add]; show w.cell? ⟨rb, j, none⟩ = some (Value.int .i64 (((fromM n m N hN)[j]!).val : Nat)) ∧ w.frozen? ⟨rb, j, none⟩ = false; rw [fromM_get n m N hN j hj]; exact hrow j hj
      have hH' := holds_sortWorld (fun x : Fin n => Value.int .i64 (x.val : Nat)) w rb 0 q (fromM n m N hN) d' os hrb hH (by rw [hsz]; exact hp.1.trans hsz)
      refine ⟨fun t ht => ?_, fun t ht => (d'[t]!).isLt⟩
      have := (hH' t (by rw [hp.1, hsz]; exact ht)).1
      rw [Nat.zero_add] at this
      exact this
    · subst hw
      exact grown_sortWorld _ _ _ _ _ _ _
end Go.Proofs.Ybulkdocu
