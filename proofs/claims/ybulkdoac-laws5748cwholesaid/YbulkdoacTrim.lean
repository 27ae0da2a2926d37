/-
  S5748C: THE WALK OF 'trim', by its contract.
-/
import Derived.Test.YbulkdoacCopy
import Derived.BigQuiet
import Derived.Deep.QuietTactic
import Derived.Deep.RegionHeld3
import Derived.Deep.RegionLaw
import Derived.Deep.DeepCutAuto
import Derived.WalkLawsBesides
import Derived.WalkSpells
namespace Go.Proofs.Ybulkdoac.lawS5748CWhole
open Go.RowKit
set_option linter.unusedVariables false

theorem Yba.size28 : (Yba.prog.info? 28).map (·.size) = some 2 := by kernel_rfl

theorem row_seg {w : World} {g : Nat} {us : List (Int × Int)} (h : RowAt w g us) (lo hi j : Nat) (v : Value) (hj : (flat (seg us lo hi))[j]? = some v) : w.cell? ⟨g, lo * 2 + j, none⟩ = some v := by
  have e : (flat us)[lo * 2 + j]? = some v := by
    unfold seg at hj
    rw [← flat_take, ← flat_drop, List.getElem?_take] at hj
    split at hj
    · rwa [List.getElem?_drop] at hj
    · cases hj
  rw [World.cell?, h]
  simpa using e

theorem copy_src {w : World} {ps : List (Int × Int)} {g lo hi : Nat} {sp : Option Addr} (h : 0 < ps.length) (hl : ps.length = hi - lo) (hs : ∀ j v, (flat ps)[j]? = some v → w.cell? ⟨g, lo * 2 + j, none⟩ = some v) (hsp : lo < hi → sp = some ⟨g, lo * 2, none⟩) :
    ∃ b o, sp = some ⟨b, o, none⟩ ∧ ∀ j v, (flat ps)[j]? = some v → w.cell? ⟨b, o + j, none⟩ = some v :=
  ⟨g, lo * 2, hsp (by omega), hs⟩

def stOf (lo hi : Nat) : Nat := if hi - lo ≤ lo then 0 else lo
def resOf (us : List (Int × Int)) (lo hi : Nat) (live : Int) : List (Int × Int) := if ((hi - lo : Nat) : Int) ≤ wrap64 (2 * live) then seg us lo hi else keepTo (seg us lo hi) (hi - lo)

theorem cell_alloc {w : World} {a : Addr} {v : Value} {o : Obj} (h : w.cell? a = some v) : (w.alloc o).cell? a = some v :=
  (World.cell?_of_block (Below.heap_alloc _ _ _ (World.block_lt_of_cell? _ _ h))).trans h
theorem frozen_alloc {w : World} {a : Addr} {v : Value} {b : Bool} {o : Obj} (h : w.cell? a = some v) (hf : w.frozen? a = b) : (w.alloc o).frozen? a = b :=
  (World.frozen?_of_block (Below.heap_alloc _ _ _ (World.block_lt_of_cell? _ _ h))).trans hf

theorem row_step {wr : World} {g st : Nat} {vs0 F : List (Int × Int)} {x : Int × Int} {o : Obj} (hr : RowAt wr g (put vs0 st F)) (h : st + F.length < vs0.length) :
    RowAt (((wr.setCell ⟨g, st * 2 + F.length * 2, none⟩ (.int .u64 x.1)).setCell ⟨g, st * 2 + F.length * 2 + 1, none⟩ (.int .i64 x.2)).alloc o).drew g (put vs0 st (F ++ [x])) := by
  have h1 := hr.set (st + F.length) x.1 x.2
  rw [put_step vs0 st F _ h, Nat.add_mul] at h1
  have h2 : g < ((wr.setCell ⟨g, st * 2 + F.length * 2, none⟩ (.int .u64 x.1)).setCell ⟨g, st * 2 + F.length * 2 + 1, none⟩ (.int .i64 x.2)).heap.size := h1.lt
  exact h1.of_block (Below.heap_alloc _ _ _ h2)
theorem cell_step {wr : World} {g s p1 p2 q : Nat} {u1 u2 v : Value} {o : Obj} (hgs : g ≠ s) (h : wr.cell? ⟨s, q, none⟩ = some v) :
    (((wr.setCell ⟨g, p1, none⟩ u1).setCell ⟨g, p2, none⟩ u2).alloc o).drew.cell? ⟨s, q, none⟩ = some v := by
  refine cell_alloc (w := (wr.setCell ⟨g, p1, none⟩ u1).setCell ⟨g, p2, none⟩ u2) ?_
  rw [World.cell?_setCell_other _ _ _ _ (by simp), World.cell?_setCell_other _ _ _ _ (by simp)]
  exact h
theorem frozen_step {wr : World} {g s p1 p2 q : Nat} {u1 u2 v : Value} {o : Obj} (hgs : g ≠ s) (h : wr.cell? ⟨s, q, none⟩ = some v) (hf : wr.frozen? ⟨s, q, none⟩ = false) :
    (((wr.setCell ⟨g, p1, none⟩ u1).setCell ⟨g, p2, none⟩ u2).alloc o).drew.frozen? ⟨s, q, none⟩ = false := by
  refine frozen_alloc (w := (wr.setCell ⟨g, p1, none⟩ u1).setCell ⟨g, p2, none⟩ u2) (v := v) ?_ ?_
  · rw [World.cell?_setCell_other _ _ _ _ (by simp), World.cell?_setCell_other _ _ _ _ (by simp)]
    exact h
  · rw [World.frozen?_setCell, World.frozen?_setCell]; exact hf

/-- Where trim stands behind its first half: the span lies at stOf, the box tells it. -/
def Mid (us : List (Int × Int)) (g s lo hi : Nat) (live old : Int) (w wx : World) : Prop :=
  ∃ vs0 cap, RowAt wx g vs0 ∧ vs0.length = us.length ∧ (∀ i, i < hi - lo → pr vs0 (stOf lo hi + i) = pr (seg us lo hi) i) ∧ wx.cell? ⟨s, 0, none⟩ = some (.slice (some ⟨g, stOf lo hi * 2, none⟩) (hi - lo) cap) ∧ hi - lo ≤ cap ∧
    wx.cell? ⟨s, 1, none⟩ = some (.int .i64 live) ∧ wx.cell? ⟨s, 2, none⟩ = some (.int .u64 old) ∧ wx.frozen? ⟨s, 0, none⟩ = false ∧ Kept2 g s w wx

theorem mid_copy {us : List (Int × Int)} {g s lo hi n : Nat} {live old : Int} {w wd w2 : World} (hgs : g ≠ s) (hn : us.length = n) (hh : hi ≤ n) (hsm : hi ≤ lo + lo) (hlh : lo ≤ hi) (hseg : (seg us lo hi).length = hi - lo)
    (hk : Kept2 g s w wd) (h0 : wd.cell? ⟨s, 0, none⟩ = some (.slice (some ⟨g, 0, none⟩) n n)) (h1 : wd.cell? ⟨s, 1, none⟩ = some (.int .i64 live)) (h2 : wd.cell? ⟨s, 2, none⟩ = some (.int .u64 old)) (hf : wd.frozen? ⟨s, 0, none⟩ = false)
    (hr2 : RowAt w2 g (put us 0 (seg us lo hi))) (hb2 : ∀ k, k ≠ g → w2.heap[k]? = wd.heap[k]?) (hk2 : Kept2 g g wd w2) :
    Mid us g s lo hi live old w (w2.setCell ⟨s, 0, none⟩ (.slice (some ⟨g, 0, none⟩) (seg us lo hi).length n)) := by
  have est : stOf lo hi = 0 := if_pos (by omega)
  have hsg : s ≠ g := Ne.symm hgs
  have hb := hb2 s hsg
  refine ⟨put us 0 (seg us lo hi), n, ?_, ?_, ?_, ?_, ?_, ?_, ?_, ?_, ?_⟩
  · exact hr2.of_block (Below.heap_setCell _ _ _ _ hgs)
  · exact put_length _ _ _ (by omega)
  · intro i hi'
    rw [est]
    exact put_in us 0 _ i (by omega) (by omega)
  · rw [est, hseg]
    exact World.cell?_setCell_same _ _ _ ((World.cell?_of_block (a := ⟨s, 0, none⟩) hb).trans h0)
  · omega
  · rw [World.cell?_setCell_other _ _ _ _ (by simp)]; exact (World.cell?_of_block (a := ⟨s, 1, none⟩) hb).trans h1
  · rw [World.cell?_setCell_other _ _ _ _ (by simp)]; exact (World.cell?_of_block (a := ⟨s, 2, none⟩) hb).trans h2
  · rw [World.frozen?_setCell]; exact (World.frozen?_of_block (a := ⟨s, 0, none⟩) hb).trans hf
  · exact (hk.trans ⟨hk2.os, hk2.tape, hk2.output, hk2.size, fun k h a b => hb2 k a⟩).setS _ _

theorem mid_keep {us : List (Int × Int)} {g s lo hi n cap : Nat} {live old : Int} {w wd : World} (hgs : g ≠ s) (hn : us.length = n) (hh : hi ≤ n) (hsm : ¬ hi ≤ lo + lo) (hlh : lo ≤ hi) (hcap : hi - lo ≤ cap)
    (hk : Kept2 g s w wd) (hr : RowAt wd g us) (h0 : wd.cell? ⟨s, 0, none⟩ = some (.slice (some ⟨g, 0, none⟩) n n)) (h1 : wd.cell? ⟨s, 1, none⟩ = some (.int .i64 live)) (h2 : wd.cell? ⟨s, 2, none⟩ = some (.int .u64 old)) (hf : wd.frozen? ⟨s, 0, none⟩ = false) :
    Mid us g s lo hi live old w (wd.setCell ⟨s, 0, none⟩ (.slice (some ⟨g, lo * 2, none⟩) (hi - lo) cap)) := by
  have est : stOf lo hi = lo := if_neg (by omega)
  refine ⟨us, cap, ?_, rfl, ?_, ?_, hcap, ?_, ?_, ?_, hk.setS _ _⟩
  · exact hr.of_block (Below.heap_setCell _ _ _ _ hgs)
  · intro i hi'
    rw [est, seg_at _ _ _ _ (by omega)]
  · rw [est]
    exact World.cell?_setCell_same _ _ _ h0
  · rw [World.cell?_setCell_other _ _ _ _ (by simp)]; exact h1
  · rw [World.cell?_setCell_other _ _ _ _ (by simp)]; exact h2
  · rw [World.frozen?_setCell]; exact hf

set_option maxHeartbeats 2000000 in
set_option maxRecDepth 100000 in
theorem trim_any (g s n : Nat) (us : List (Int × Int)) (live old : Int) (w : World) (hl : n ≤ 1048576) (hn : us.length = n) (hgs : g ≠ s) (hrow : RowAt w g us)
    (h0 : w.cell? ⟨s, 0, none⟩ = some (.slice (some ⟨g, 0, none⟩) n n)) (h1 : w.cell? ⟨s, 1, none⟩ = some (.int .i64 live)) (h2 : w.cell? ⟨s, 2, none⟩ = some (.int .u64 old)) (hf : w.frozen? ⟨s, 0, none⟩ = false) :
    Calls Yba.prog 5 #[.pointer (some ⟨s, 0, none⟩)] w fun e w' => e = .returned (.tuple #[]) ∧ ∃ lo hi vs cap, Span us lo hi ∧ RowAt w' g vs ∧ vs.length = us.length ∧ Kept2 g s w w' ∧
      w'.cell? ⟨s, 0, none⟩ = some (.slice (some ⟨g, stOf lo hi * 2, none⟩) (resOf us lo hi live).length cap) ∧ w'.cell? ⟨s, 1, none⟩ = some (.int .i64 live) ∧ w'.cell? ⟨s, 2, none⟩ = some (.int .u64 old) ∧
      ∀ i, i < (resOf us lo hi live).length → pr vs (stOf lo hi + i) = pr (resOf us lo hi live) i := by
  have HN : Hid (us.length = n) := hn
  have hc1 : ∀ k, k < n → w.cell? ⟨g, k * 2 + 1, none⟩ = some (.int .i64 (us1 us k)) := fun k hk => hrow.c1 k (by omega)
  clear hn
  go_enter Yba.func5, Yba.ntmps5
  go_wp2
  go_quiet (fail)
  go_wp2
  go_loop [2] (fun l => ∃ k : Nat, k ≤ n ∧ l = .int .i64 k ∧ ∀ j, j < k → us1 us j = 0) (fun i => n - (intOf i).toNat)
  case atStart => exact ⟨0, Nat.zero_le _, rfl, fun j hj => absurd hj (Nat.not_lt_zero j)⟩
  case round =>
    obtain ⟨lo, hlo, rfl, hz⟩ := hrel
    have HZ : Hid (∀ j, j < lo → us1 us j = 0) := hz
    clear hz
    by_cases hgo : lo < n ∧ (us1 us lo == 0) = true
    · obtain ⟨hlt, hzero⟩ := hgo
      have hcx := hc1 lo hlt
      have HZ' : Hid (∀ j, j < lo + 1 → us1 us j = 0) := fun j hj => by
        by_cases e : j = lo
        · subst e; simpa using hzero
        · exact HZ.out j (by omega)
      go_wp2
      go_round
      case rel => exact ⟨lo + 1, by omega, by go_num, HZ'.out⟩
      case measure => simp [intOf]; omega
    · have HL : Hid (lo = n ∨ us1 us lo ≠ 0) := by
        by_cases e : lo < n
        · exact .inr (by simpa [e] using hgo)
        · exact .inl (by omega)
      have hnot : (lo < n ∧ w.cell? ⟨g, lo * 2 + 1, none⟩ = some (.int .i64 (us1 us lo)) ∧ (us1 us lo == 0) = false) ∨ ¬ lo < n := by
        by_cases h : lo < n
        · exact .inl ⟨h, hc1 lo h, by simpa [h] using hgo⟩
        · exact .inr h
      clear hgo
      rcases hnot with ⟨hlt, hcx, hnz⟩ | hlt
      all_goals
        go_wp2
        go_loop [3] (fun l => ∃ k : Nat, lo ≤ k ∧ k ≤ n ∧ l = .int .i64 k ∧ ∀ j, k ≤ j → j < n → us1 us j = 0) (fun i => (intOf i).toNat)
        case atStart => exact ⟨n, hlo, Nat.le_refl _, rfl, fun j h1 h2 => absurd h2 (by omega)⟩
        case round =>
          obtain ⟨hi, hh1, hh2, rfl, hz⟩ := hrel
          have HZ2 : Hid (∀ j, hi ≤ j → j < n → us1 us j = 0) := hz
          clear hz
          by_cases hgo : lo < hi ∧ (us1 us (hi - 1) == 0) = true
          · obtain ⟨hlt2, hzero⟩ := hgo
            have hcx2 := hc1 (hi - 1) (by omega)
            have HZ' : Hid (∀ j, hi - 1 ≤ j → j < n → us1 us j = 0) := fun j hj hjn => by
              by_cases e : j = hi - 1
              · subst e; simpa using hzero
              · exact HZ2.out j (by omega) hjn
            have hln : lo < n := by omega
            clear hlt
            go_wp2
            go_round
            case rel => exact ⟨hi - 1, by omega, by omega, by go_num, HZ'.out⟩
            case measure => simp [intOf]; omega
          · have HS : Hid (Span us lo hi) := by
              refine ⟨HZ.out, fun j hj hjn => HZ2.out j hj (by have := HN.out; omega), ?_⟩
              have hlen := HN.out
              rcases HL.out with e | e
              · exact .inl (by omega)
              · by_cases e2 : lo = n
                · exact .inl (by omega)
                · have h3 : lo < hi := by
                    by_cases e3 : lo < hi
                    · exact e3
                    · exact absurd (HZ2.out lo (by omega) (by omega)) e
                  exact .inr ⟨h3, by omega, e, by simpa [h3] using hgo⟩
            have hnot2 : (lo < hi ∧ w.cell? ⟨g, (hi - 1) * 2 + 1, none⟩ = some (.int .i64 (us1 us (hi - 1))) ∧ (us1 us (hi - 1) == 0) = false ∧ ∀ a b : Option Addr, (if n = lo then a else b) = b) ∨ (¬ lo < hi ∧ ∀ a b : Option Addr, (if n = lo then a else b) = a) := by
              by_cases h : lo < hi
              · exact .inl ⟨h, hc1 (hi - 1) (by omega), by simpa [h] using hgo, fun a b => if_neg (by omega)⟩
              · refine .inr ⟨h, fun a b => if_pos ?_⟩
                have hlen := HN.out
                rcases HS.out.2.2 with e | e <;> omega
            clear hgo
            have hfork : ¬ lo < hi → hi ≤ lo + lo := fun h => by omega
            have hseg : (seg us lo hi).length = hi - lo := seg_length us lo hi (by have := HN.out; omega)
            have HSEG : Hid ((seg us lo hi).length = hi - lo) := hseg
            have HSRC : Hid (∀ j v, (flat (seg us lo hi))[j]? = some v → w.cell? ⟨g, lo * 2 + j, none⟩ = some v) := fun j v h => row_seg hrow lo hi j v h
            have hiff : lo < n ↔ lo < hi := by
              have hlen := HN.out
              rcases HS.out.2.2 with e | e <;> omega
            have hfit : (seg us lo hi).length ≤ us.length := by have := HN.out; omega
            have HFIT : Hid ((seg us lo hi).length ≤ us.length) := hfit
            have hmin : (seg us lo hi).length = (hi - lo).min n := by rw [hseg]; simp only [Nat.min_def]; split <;> omega
            have HMIN : Hid ((seg us lo hi).length = (hi - lo).min n) := hmin
            have hsl : ((seg us lo hi).length : Int) ≤ (n : Int) := by omega
            clear hseg hfit hmin
            rcases hnot2 with ⟨hlt2, hcx2, hnz2, hif⟩ | ⟨hlt2, hif⟩
            all_goals first | (exfalso; omega) | skip
            all_goals
              clear hfork hiff hlt
              go_upto_if 49 with fail
              go_cut [] (fun wx => Mid us g s lo hi live old w wx)
              case first =>
                by_cases hsm : hi ≤ lo + lo
                · go_wp2_with fail
                  go_region_law (refine step_copy_pairs (by rfl) (.tmp 58) (.tmp 65) 25 25 (by rfl) 28 Yba.underlying25 Yba.size28 _ _ _ _ _ _ (by rfl) (by rfl) g us (seg us lo hi) (by exact hrow) HMIN.out (fun h => ⟨rfl, copy_src h HSEG.out HSRC.out (fun h => by first | rfl | (exfalso; omega))⟩) HFIT.out ?_; intro w2 hr2 hb2 hk2; have hc2 : w2.cell? ⟨s, 0, none⟩ = some (.slice (some ⟨g, 0, none⟩) n n) := (World.cell?_of_block (hb2.out s (Ne.symm hgs))).trans (by exact h0); have hf2 : w2.frozen? ⟨s, 0, none⟩ = false := (World.frozen?_of_block (hb2.out s (Ne.symm hgs))).trans (by exact hf))
                  all_goals
                    go_wp2_with fail
                    go_meet
                    exact mid_copy hgs HN.out hh2 hsm hh1 HSEG.out (((Kept2.refl g s w).drewN _).drew) (by exact h0) (by exact h1) (by exact h2) (by exact hf) hr2 hb2.out hk2
                · go_wp2_with fail
                  all_goals
                    go_meet
                    exact mid_keep hgs HN.out hh2 hsm hh1 (by omega) ((Kept2.refl g s w).drewN _) (by exact hrow) (by exact h0) (by exact h1) (by exact h2) (by exact hf)
              case rest =>
                clear hrow h0 h1 h2 hf hc1 HSRC HMIN HFIT hsl
                obtain ⟨vs0, cap, hr, hvl, hpr, hc0, hcap, hcl, hco, hfz, hk⟩ := hcut
                have hst : stOf lo hi + (hi - lo) ≤ n := by unfold stOf; split <;> omega
                have HV : Hid (vs0.length = us.length) := hvl
                have HP : Hid (∀ i, i < hi - lo → pr vs0 (stOf lo hi + i) = pr (seg us lo hi) i) := hpr
                clear hvl hpr
                obtain ⟨m, hm⟩ : ∃ m, m = hi - lo := ⟨_, rfl⟩
                obtain ⟨st, hst'⟩ : ∃ st, st = stOf lo hi := ⟨_, rfl⟩
                obtain ⟨sg, hsg⟩ : ∃ sg, sg = seg us lo hi := ⟨_, rfl⟩
                have HRES : Hid (resOf us lo hi live = if ((m : Nat) : Int) ≤ wrap64 (2 * live) then sg else keepTo sg m) := by subst hm hsg; rfl
                rw [← hm, ← hst'] at hc0
                rw [← hm, ← hst'] at hst
                rw [← hm, ← hst', ← hsg] at HP
                rw [← hm] at hcap
                rw [← hsg, ← hm] at HSEG
                have HM : Hid (m = hi - lo) := hm
                have HST : Hid (st = stOf lo hi) := hst'
                have HSG : Hid (sg = seg us lo hi) := hsg
                clear hm hst' hsg
                by_cases hkeep : (m : Int) ≤ wrap64 (2 * live)
                · go_wp2_with fail
                  go_quiet (fail)
                  go_wp2
                  refine bodyPost_ret (v := .tuple #[]) (by simp [results, Yba.results5, go_sem]) rfl ?_
                  have er : resOf us lo hi live = sg := by rw [HRES.out, if_pos hkeep]
                  refine ⟨rfl, lo, hi, vs0, cap, HS.out, hr, HV.out, hk.drewN _, ?_, hcl, hco, ?_⟩
                  · rw [er, ← HST.out, HSEG.out]; exact hc0
                  · rw [er, ← HST.out, HSEG.out]; exact HP.out
                · go_wp2_with fail
                  go_quiet (fail)
                  go_wp2
                  go_loopw [4, 96] (fun sn si wr => ∃ i : Nat, i ≤ m ∧ si = .int .i64 i ∧ sn = .int .i64 ((keepTo sg i).length : Nat) ∧ RowAt wr g (put vs0 st (keepTo sg i)) ∧ wr.cell? ⟨s, 0, none⟩ = some (.slice (some ⟨g, st * 2, none⟩) m cap) ∧
                    wr.cell? ⟨s, 1, none⟩ = some (.int .i64 live) ∧ wr.cell? ⟨s, 2, none⟩ = some (.int .u64 old) ∧ wr.frozen? ⟨s, 0, none⟩ = false ∧ Kept2 g s w wr) (fun _ i _ => m - (intOf i).toNat)
                  case atStart => exact ⟨0, Nat.zero_le _, rfl, rfl, by rw [keepTo, put_nil]; exact hr, hc0, hcl, hco, hfz, hk.drewN _⟩
                  case round =>
                    clear hr hc0 hcl hco hfz hk
                    obtain ⟨i, hi', rfl, rfl, hr, hc0, hcl, hco, hfz, hk⟩ := hrel
                    have hkl := keepTo_le sg i
                    by_cases hlt : i < m
                    · have ex : pr (put vs0 st (keepTo sg i)) (st + i) = pr sg i := by
                        rw [put_past vs0 st _ i (by have := HV.out; have := HN.out; omega) hkl]
                        exact HP.out i hlt
                      have hlen : (put vs0 st (keepTo sg i)).length = n := by rw [put_length vs0 st _ (by have := HV.out; have := HN.out; omega), HV.out, HN.out]
                      have hx0 : wr.cell? ⟨g, st * 2 + i * 2, none⟩ = some (.int .u64 (at0 sg i)) := by
                        have := hr.c0 (st + i) (by omega)
                        rw [at0, ex, Nat.add_mul] at this
                        exact this
                      have hx1 : wr.cell? ⟨g, st * 2 + i * 2 + 1, none⟩ = some (.int .i64 (us1 sg i)) := by
                        have := hr.c1 (st + i) (by omega)
                        rw [us1, ex, Nat.add_mul] at this
                        exact this
                      have HX : Hid (pr (put vs0 st (keepTo sg i)) (st + i) = pr sg i) := ex
                      have HLEN : Hid ((put vs0 st (keepTo sg i)).length = n) := hlen
                      clear ex hlen
                      by_cases hpos : 0 < us1 sg i
                      · have hkn : (keepTo sg i).length < m := by omega
                        have hkn' : ((keepTo sg i).length : Int) < (m : Int) := by omega
                        have hslt : s < wr.heap.size := World.block_lt_of_cell? _ _ hc0
                        have hglt : g < wr.heap.size := hr.lt
                        have hy0 : wr.cell? ⟨g, st * 2 + (keepTo sg i).length * 2, none⟩ = some (.int .u64 (at0 (put vs0 st (keepTo sg i)) (st + (keepTo sg i).length))) := by
                          have := hr.c0 (st + (keepTo sg i).length) (by have := HLEN.out; omega)
                          rw [Nat.add_mul] at this
                          exact this
                        have hy1 : wr.cell? ⟨g, st * 2 + (keepTo sg i).length * 2 + 1, none⟩ = some (.int .i64 (us1 (put vs0 st (keepTo sg i)) (st + (keepTo sg i).length))) := by
                          have := hr.c1 (st + (keepTo sg i).length) (by have := HLEN.out; omega)
                          rw [Nat.add_mul] at this
                          exact this
                        have hyf0 := hr.fr (st * 2 + (keepTo sg i).length * 2)
                        have hyf1 := hr.fr (st * 2 + (keepTo sg i).length * 2 + 1)
                        go_wp2
                        go_region
                        all_goals
                          go_wp2
                          go_roundw
                          case rel =>
                            refine ⟨i + 1, by omega, by go_num, ?_, ?_, cell_step hgs hc0, cell_step hgs hcl, cell_step hgs hco, frozen_step hgs hc0 hfz, (((hk.setG _ _).setG _ _).alloc _).drew⟩
                            · rw [keepTo_hit sg i hpos, List.length_append]; simp
                            · rw [keepTo_hit sg i hpos]; exact row_step (x := pr sg i) hr (by have := HV.out; have := HN.out; omega)
                          case measure => simp [intOf]; omega
                      · go_wp2
                        go_roundw
                        case rel => exact ⟨i + 1, by omega, by go_num, by rw [keepTo_miss sg i hpos], by rw [keepTo_miss sg i hpos]; exact hr.of_block (Below.heap_alloc _ _ _ hr.lt), cell_alloc hc0, cell_alloc hcl, cell_alloc hco, frozen_alloc hc0 hfz, hk.alloc _⟩
                        case measure => simp [intOf]; omega
                    · obtain rfl : m = i := by omega
                      go_wp2
                      go_end0
                      have er : resOf us lo hi live = keepTo sg m := by rw [HRES.out, if_neg (by omega)]
                      have hfit : st + (keepTo sg m).length ≤ vs0.length := by have := HV.out; have := HN.out; omega
                      refine ⟨rfl, lo, hi, put vs0 st (keepTo sg m), cap, HS.out, hr.of_block (Below.heap_setCell _ _ _ _ hgs), ?_, hk.setS _ _, ?_, ?_, ?_, ?_⟩
                      · rw [put_length vs0 st _ hfit, HV.out]
                      · rw [er, ← HST.out]; exact World.cell?_setCell_same _ _ _ hc0
                      · rw [World.cell?_setCell_other _ _ _ _ (by simp)]; exact hcl
                      · rw [World.cell?_setCell_other _ _ _ _ (by simp)]; exact hco
                      · rw [er, ← HST.out]
                        intro i hi
                        exact put_in vs0 st _ i hfit hi

end Go.Proofs.Ybulkdoac.lawS5748CWhole
