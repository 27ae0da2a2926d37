/-
  S5748C: THE WALK OF THE LAW.
-/
import Derived.Test.YbulkdoacFill
import Derived.Test.YbulkdoacAtomic
import Derived.RegionTactic
import Derived.OpenShut
namespace Go.Proofs.Ybulkdoac.lawS5748CWhole
open Go.RowKit
set_option linter.unusedVariables false

theorem Yba.info28 : (Yba.prog.info? 28).map (fun i => (i.zero, i.size, i.bytes)) = some (some (.agg #[.int .u64 0, .int .i64 0]), 2, 16) := by kernel_rfl

theorem run_equalIn_same {P : Program} (d : Nat) (t e : TypeId) (a : Addr) (n : Nat) (h : P.underlying t = some (.pointer e)) (hs : (P.info? e).map (·.size) = some (n + 1)) (w : World) :
    (Op.equalIn (d + 1) t (.pointer (some a)) (.pointer (some a))).run P w = .ok true w := by
  cases hq : P.info? e with
  | none => simp [hq] at hs
  | some i =>
    simp [Op.equalIn, run_underlying h, sizeOf, typeInfo, hq, sameAddr]
theorem run_neq_same {P : Program} (t e : TypeId) (a : Addr) (n : Nat) (h : P.underlying t = some (.pointer e)) (hs : (P.info? e).map (·.size) = some (n + 1)) (w : World) :
    (binOp .neq t (.pointer (some a)) (.pointer (some a))).run P w = .ok (.bool false) w := by
  have h1 : (Op.equal t (.pointer (some a)) (.pointer (some a))).run P w = .ok true w := run_equalIn_same 9999 t e a n h hs w
  simp only [binOp]
  simp [h1]

theorem pair_new (w : World) (o1 : Obj) (a b : Int) : ∀ (j : Nat) (u : Value), [Value.int .u64 a, Value.int .i64 b][j]? = some u →
    ((w.alloc o1).alloc (.cells #[.int .u64 a, .int .i64 b] 28)).cell? ((⟨w.heap.size + 1, 0, none⟩ : Addr).add j) = some u := by
  intro j u hj
  match j, hj with
  | 0, hj => simp at hj; subst hj; simp [Addr.add]
  | 1, hj => simp at hj; subst hj; simp [Addr.add]
theorem pair_one (a b : Int) : ∀ u ∈ [Value.int .u64 a, Value.int .i64 b], u.oneCell' = true := by
  intro u hu
  simp at hu
  rcases hu with rfl | rfl <;> rfl

theorem pick_step {w : World} {base : Nat} {v : Value} {ka : Bool} {sg : List (Int × Int)} {k : Nat} (e : pickTo ka sg (k + 1) = pickTo ka sg k ++ [pr sg k])
    (h : w.ownsRow base 28 2 v ((pickTo ka sg k).length + 1) (flat (pickTo ka sg k) ++ [.int .u64 (at0 sg k), .int .i64 (us1 sg k)])) :
    w.ownsRow base 28 2 v (pickTo ka sg (k + 1)).length (flat (pickTo ka sg (k + 1))) := by
  rw [e, flat_append, List.length_append]
  exact h

set_option maxHeartbeats 400000 in
set_option maxRecDepth 100000 in
theorem walk_big (a0 a1 : Option Addr) (len0 cap0 len1 cap1 : Nat) (live old : Int) (w : World) (h : 1048576 < len0 ∧ 1048576 < len1) (hm : len0 ≤ maxLen ∧ len1 ≤ maxLen) :
    Calls Yba.prog 3 #[.slice a0 len0 cap0, .slice a1 len1 cap1, .int .i64 live, .int .u64 old] w fun e w' => e = .returned (.bool true) ∧ Below w.heap.size w w' := by
  unfold maxLen at hm
  obtain ⟨h0, h1⟩ := h
  by_cases hlt : len1 < len0
  · go_enter Yba.func3, Yba.ntmps3
    go_wp2
    go_ret
    exact ⟨rfl, Below.refl _ _⟩
  · go_enter Yba.func3, Yba.ntmps3
    go_wp2
    go_ret
    exact ⟨rfl, Below.refl _ _⟩

set_option maxHeartbeats 2000000 in
set_option maxRecDepth 100000 in
theorem walk_main (a0 a1 : Option Addr) (len0 cap0 len1 cap1 n : Nat) (z0 z1 : List Int) (live old : Int) (w : World) (hn : n = if len1 < len0 then len1 else len0) (hl : n ≤ 1048576)
    (hc0 : ∀ i, i < n → ∃ b off, a0 = some ⟨b, off, none⟩ ∧ b < w.heap.size ∧ w.cell? ⟨b, off + i, none⟩ = some (.int .u64 (z0[i]?.getD 0)))
    (hc1 : ∀ i, i < n → ∃ b off, a1 = some ⟨b, off, none⟩ ∧ b < w.heap.size ∧ w.cell? ⟨b, off + i, none⟩ = some (.int .i64 (z1[i]?.getD 0))) :
    Calls Yba.prog 3 #[.slice a0 len0 cap0, .slice a1 len1 cap1, .int .i64 live, .int .u64 old] w fun e w' => e = .returned (.bool true) ∧ Below w.heap.size w w' := by
  obtain ⟨i0, hi, hz0, hz1, hz2⟩ := info_parts Yba.info28
  have hn0 : n ≤ len0 := by rw [hn]; split <;> omega
  have hn1 : n ≤ len1 := by rw [hn]; split <;> omega
  have HN : Hid (n = if len1 < len0 then len1 else len0) := hn
  have hd20 : decide ((1048576 : Int) < (n : Int)) = false := decide_eq_false (by omega)
  clear hn
  go_enter Yba.func3, Yba.ntmps3
  go_upto_if 30 with fail
  go_cut [9] (fun v wx => v = .int .i64 n ∧ w = wx)
  case first =>
    by_cases hlt : len1 < len0
    · go_wp2_with fail
      go_meet
      exact ⟨by rw [HN.out, if_pos hlt], rfl⟩
    · go_wp2_with fail
      go_meet
      exact ⟨by rw [HN.out, if_neg hlt], rfl⟩
  case rest =>
    obtain ⟨rfl, rfl⟩ := hcut
    go_wp2_with (at_make; refine wpList_make_full _ rfl _ _ 25 rfl w.heap.size 28 i0 (.agg #[.int .u64 0, .int .i64 0]) 2 Yba.underlying25 hi hz0 hz1 _ _ _ _ n rfl rfl (by omega) (by omega) ?b2 ?b3 (Nat.le_refl _) ?_)
    case b2 => rw [hz2]; omega
    case b3 => unfold maxLen; omega
    intro w1 hown hgrow
    obtain ⟨us, hus⟩ : ∃ us, us = usOf z0 z1 n := ⟨_, rfl⟩
    have HL : Hid (us.length = n) := by rw [hus]; exact usOf_length z0 z1 n
    have HU : Hid (∀ k, k < n → us[k]? = some (z0[k]?.getD 0, z1[k]?.getD 0)) := fun k hk => by rw [hus]; exact usOf_get z0 z1 n k hk
    clear hus
    have hr0 : RowAt w1 w.heap.size (fillTo us 0) := by
      refine row_of_owns (base := w.heap.size) (n := n) ?_
      rw [fillTo_zero, HL.out, ← flat_made]
      exact hown
    have hb1 : Below w.heap.size w w1 := (Below.refl _ _).grown hgrow (Nat.le_refl _) (fun k h => by cases h)
    clear hown hgrow
    go_wp2
    go_loopw [11] (fun i wr => ∃ k : Nat, k ≤ n ∧ i = .int .i64 k ∧ RowAt wr w.heap.size (fillTo us k) ∧ Below w.heap.size w wr) (fun i _ => n - (intOf i).toNat)
    case atStart => exact ⟨0, Nat.zero_le _, rfl, hr0, hb1⟩
    case round =>
      clear hr0 hb1
      obtain ⟨k, hk, rfl, hr, hb⟩ := hrel
      by_cases hlt : k < n
      · obtain ⟨b0, o0, rfl, hlb0, hx0⟩ := hc0 k hlt
        obtain ⟨b1, o1, rfl, hlb1, hx1⟩ := hc1 k hlt
        have hc0x := (hb.cell (p := ⟨b0, o0 + k, none⟩) hlb0).trans hx0
        have hc1x := (hb.cell (p := ⟨b1, o1 + k, none⟩) hlb1).trans hx1
        have hlen := fillTo_length us k (by have := HL.out; omega)
        have hy0 := hr.c0 k (by have := HL.out; omega)
        have hy1 := hr.c1 k (by have := HL.out; omega)
        have hf0 := hr.fr (k * 2)
        have hf1 := hr.fr (k * 2 + 1)
        have hk0 : (k : Int) < (len0 : Int) := by omega
        have hk1 : (k : Int) < (len1 : Int) := by omega
        have hkn : (k : Int) < (n : Int) := by omega
        have hst := hr.set k (z0[k]?.getD 0) (z1[k]?.getD 0)
        rw [fillTo_step us k _ (HU.out k hlt)] at hst
        have HST : Hid (RowAt ((wr.setCell ⟨w.heap.size, k * 2, none⟩ (.int .u64 (z0[k]?.getD 0))).setCell ⟨w.heap.size, k * 2 + 1, none⟩ (.int .i64 (z1[k]?.getD 0))) w.heap.size (fillTo us (k + 1))) := hst
        clear hx0 hx1 hc0 hc1 hst hlen
        go_wp2
        go_region
        all_goals
          go_wp2
          go_roundw
          case rel => exact ⟨k + 1, by omega, by go_num, HST.out, ((hb.setCell (Nat.le_refl _) _).setCell (Nat.le_refl _) _).drew⟩
          case measure => simp [intOf]; omega
      · obtain rfl : n = k := by omega
        have hr1 : RowAt wr w.heap.size us := by have e := fillTo_all us; rw [HL.out] at e; rw [e] at hr; exact hr
        clear hr hc0 hc1
        go_wp2_with (at_make; refine wpList_make_full _ rfl _ _ 25 rfl w.heap.size 28 i0 (.agg #[.int .u64 0, .int .i64 0]) 2 Yba.underlying25 hi hz0 hz1 _ _ _ _ n rfl rfl (by omega) (by omega) ?b2 ?b3 (by exact hb.size) ?_)
        case b2 => rw [hz2]; omega
        case b3 => unfold maxLen; omega
        intro w2 hown2 hgrow2
        have hr2 : RowAt w2 w.heap.size us := hr1.of_block (hgrow2.block _ hr1.lt (by simp))
        have ho2 : RowAt w2 wr.heap.size (List.replicate n (0, 0)) := by
          refine row_of_owns (base := w.heap.size) (n := n) ?_
          rw [← flat_made]
          exact hown2
        have hb2 : Below w.heap.size w w2 := hb.grown hgrow2 hb.size (fun k h => by cases h)
        have hgo : w.heap.size < wr.heap.size := hr1.lt
        clear hown2 hgrow2 hr1 hb
        generalize wr.heap.size = og at *
        have HSRC : Hid (∀ j v, (flat us)[j]? = some v → w2.cell? ⟨w.heap.size, 0 + j, none⟩ = some v) := fun j v h => by
          rw [Nat.zero_add, World.cell?, hr2]
          simpa using h
        obtain ⟨w3, hrun, ho3, hk3, hkk3⟩ := run_copy_pairs (P := Yba.prog) w2 25 25 3 28 Yba.underlying25 Yba.size28 (some ⟨og, 0, none⟩) (some ⟨w.heap.size, 0, none⟩) n n n n og (List.replicate n (0, 0)) us ho2 (by rw [HL.out]; simp) (fun h => ⟨rfl, w.heap.size, 0, rfl, HSRC.out⟩) (by rw [HL.out]; simp)
        have ho3' : RowAt w3 og us := by
          have e : put (List.replicate n (0, 0)) 0 us = us := by
            have := HL.out
            simp [put, this]
          rw [e] at ho3
          exact ho3
        have hr3 : RowAt w3 w.heap.size us := hr2.of_block (hk3 _ (by omega))
        have hb3 : Below w.heap.size w w3 := Kept2.below hb2 hkk3 hb2.size (by omega) (by omega)
        clear ho3 hk3 hkk3 hr2 ho2 hb2 HSRC
        go_wp2_with fail
        refine (store_any w3.heap.size 2 old 0 _ (by simp) (by simp)).mono ?_
        rintro e w4 ⟨rfl, hw4⟩
        have hgs : w.heap.size < w3.heap.size := hr3.lt
        have hos : og < w3.heap.size := ho3'.lt
        have hr4 : RowAt w4 w.heap.size us := by rw [← hw4]; exact hr3.of_block ((Below.heap_setCell _ _ _ _ (by simp; omega)).trans (Below.heap_alloc _ _ _ hgs))
        have ho4 : RowAt w4 og us := by rw [← hw4]; exact ho3'.of_block ((Below.heap_setCell _ _ _ _ (by simp; omega)).trans (Below.heap_alloc _ _ _ hos))
        have hb4 : Below w.heap.size w w4 := by rw [← hw4]; exact (hb3.alloc hb3.size _).setCell (by exact Nat.le_of_lt hgs) _
        have hs0 : w4.cell? ⟨w3.heap.size, 0, none⟩ = some (.slice (some ⟨w.heap.size, 0, none⟩) n n) := by rw [← hw4, World.cell?_setCell_other _ _ _ _ (by simp)]; simp
        have hs1 : w4.cell? ⟨w3.heap.size, 1, none⟩ = some (.int .i64 live) := by rw [← hw4, World.cell?_setCell_other _ _ _ _ (by simp)]; simp
        have hs2 : w4.cell? ⟨w3.heap.size, 2, none⟩ = some (.int .u64 old) := by rw [← hw4]; exact World.cell?_setCell_same _ _ _ (u := .int .u64 0) (by simp)
        have hsf : w4.frozen? ⟨w3.heap.size, 0, none⟩ = false := by rw [← hw4]; simp
        have hsz : w3.heap.size < w4.heap.size := World.block_lt_of_cell? _ _ hs0
        clear hw4 hr3 ho3' hb3 hrun
        generalize w3.heap.size = bs at *
        go_wp2_with fail
        refine (trim_any w.heap.size bs n us live old _ hl HL.out (by omega) hr4 hs0 hs1 hs2 hsf).mono ?_
        rintro e w5 ⟨rfl, lo, hi', vs, cap, hspan, hr5, hvl, hk5, hc5, hl5, ho5, hres⟩
        have hg5 : RowAt w5 og us := ho4.of_block (hk5.block _ ho4.lt (by omega) (by omega))
        have hb5 : Below w.heap.size w w5 := Kept2.below hb4 hk5 hb4.size (Nat.le_refl _) (by omega)
        clear hr4 ho4 hb4 hs0 hs1 hs2 hsf hk5
        have HS : Hid (Span us lo hi') := hspan
        have HV : Hid (vs.length = us.length) := hvl
        have HR : Hid (∀ i, i < (resOf us lo hi' live).length → pr vs (stOf lo hi' + i) = pr (resOf us lo hi' live) i) := hres
        have hcu : ∀ k, k < n → w5.cell? ⟨og, k * 2 + 1, none⟩ = some (.int .i64 (us1 us k)) := fun k hk => hg5.c1 k (by have := HL.out; omega)
        clear hspan hvl hres
        go_wp2
        go_loop [14, 15, 16] (fun f l i => ∃ (k : Nat) (x y : Int), k ≤ n ∧ i = .int .i64 k ∧ f = .int .i64 x ∧ l = .int .i64 y ∧ Found us k x y) (fun _ _ i => n - (intOf i).toNat)
        case atStart => exact ⟨0, -1, -1, Nat.zero_le _, rfl, rfl, rfl, Found.zero us⟩
        case round =>
          obtain ⟨k, x, y, hk, rfl, rfl, rfl, hfd⟩ := hrel
          have hbd := hfd.bd
          by_cases hlt : k < n
          · have hx1 := hcu k hlt
            clear hcu
            by_cases hz : us1 us k = 0
            · have hzb : (us1 us k != 0) = false := by simp [hz]
              have HF := hfd.miss hz
              clear hz
              go_wp2
              go_round
              case rel => exact ⟨k + 1, x, y, by omega, by go_num, rfl, rfl, HF⟩
              case measure => simp [intOf]; omega
            · have hzb : (us1 us k != 0) = true := by simp [hz]
              by_cases hneg : x < 0
              · have HF := hfd.hit_first hz hneg
                clear hz
                go_wp2
                go_round
                case rel => exact ⟨k + 1, k, k, by omega, by go_num, rfl, rfl, HF⟩
                case measure => simp [intOf]; omega
              · have HF := hfd.hit_more hz hneg
                clear hz
                go_wp2
                go_round
                case rel => exact ⟨k + 1, x, k, by omega, by go_num, rfl, rfl, HF⟩
                case measure => simp [intOf]; omega
          · obtain rfl : n = k := by omega
            have hsp := Found.span (by rw [HL.out]; exact hfd) HS.out
            clear hfd hbd hcu
            have hm : ∃ m, m = hi' - lo := ⟨_, rfl⟩
            obtain ⟨m, hm⟩ := hm
            have hlo : lo ≤ n := by have := HL.out; rcases hsp with ⟨_, e, _⟩ | ⟨_, _, _, _⟩ <;> omega
            have hmn : lo + m ≤ n := by have := HL.out; rcases hsp with ⟨_, e, _⟩ | ⟨_, _, _, _⟩ <;> omega
            have HSP : Hid ((x = -1 ∧ lo = n ∧ m = 0) ∨ (x = lo ∧ y = (lo : Int) + m - 1 ∧ 0 < m)) := by
              have := HL.out
              rcases hsp with ⟨e1, e2, e3⟩ | ⟨e1, e2, e3, e4⟩
              · exact .inl ⟨e1, by omega, by omega⟩
              · exact .inr ⟨e1, by omega, by omega⟩
            have HM : Hid (m = hi' - lo) := hm
            clear hsp hm
            go_upto_if 87 with fail
            go_cut [17, 18] (fun a b wx => a = .int .i64 lo ∧ b = .int .i64 m ∧ w5 = wx)
            case first =>
              by_cases hx : x < 0
              · go_wp2
                go_meet
                rcases HSP.out with ⟨e1, e2, e3⟩ | ⟨e1, e2, e3⟩
                · rw [e2, e3]; exact ⟨rfl, rfl, rfl⟩
                · omega
              · have hbx : 0 ≤ x ∧ x ≤ 1048576 ∧ -1 ≤ y ∧ y ≤ 1048576 := by rcases HSP.out with ⟨e1, e2, e3⟩ | ⟨e1, e2, e3⟩ <;> omega
                go_wp2
                go_meet
                rcases HSP.out with ⟨e1, e2, e3⟩ | ⟨e1, e2, e3⟩
                · omega
                · exact ⟨by rw [e1], by go_num, rfl⟩
            case rest =>
              obtain ⟨rfl, rfl, rfl⟩ := hcut
              have est : stOf lo hi' = if m ≤ lo then 0 else lo := by unfold stOf; rw [HM.out]
              obtain ⟨st, hst⟩ : ∃ st, st = stOf lo hi' := ⟨_, rfl⟩
              have HST : Hid (st = if m ≤ lo then 0 else lo) := by rw [hst]; exact est
              have hstn : st + m ≤ n := by rw [hst, est]; split <;> omega
              have hres : (resOf us lo hi' live) = pickTo (decide ((m : Int) ≤ wrap64 (2 * live))) (seg us lo hi') m := by
                rw [HM.out, pick_res us lo hi' live (seg_length us lo hi' (by have := HL.out; rcases HS.out.2.2 with e | e <;> omega))]
              rw [← hst] at hc5 HR
              clear est hst
              go_upto_if 96 with fail
              go_cut [19] (fun a wx => a = .int .i64 st ∧ w5 = wx)
              case first =>
                by_cases hle : m ≤ lo
                · go_wp2
                  go_meet
                  exact ⟨by rw [HST.out, if_pos (by omega)]; rfl, rfl⟩
                · go_wp2
                  go_meet
                  exact ⟨by rw [HST.out, if_neg (by omega)], rfl⟩
              case rest =>
                obtain ⟨rfl, rfl⟩ := hcut
                have HSGL : Hid ((seg us lo hi').length = m) := by rw [HM.out]; exact seg_length us lo hi' (by have := HL.out; rcases HS.out.2.2 with e | e <;> omega)
                have HAT : Hid (∀ i, i < m → pr (seg us lo hi') i = pr us (lo + i)) := fun i h => seg_at us lo hi' i (by have := HM.out; omega)
                generalize seg us lo hi' = sg at *
                generalize hka : decide ((m : Int) ≤ wrap64 (2 * live)) = ka at *
                have HKA : Hid (decide ((m : Int) ≤ wrap64 (2 * live)) = ka) := hka
                rw [hres] at hc5 HR
                have HRES : Hid (resOf us lo hi' live = pickTo ka sg m) := hres
                clear hres
                go_wp2
                go_loopw [21, 22] (fun v i wr => ∃ k : Nat, k ≤ m ∧ i = .int .i64 k ∧ wr.ownsRow w5.heap.size 28 2 v (pickTo ka sg k).length (flat (pickTo ka sg k)) ∧ Below w5.heap.size w5 wr) (fun _ i _ => m - (intOf i).toNat)
                case atStart => exact ⟨0, Nat.zero_le _, rfl, World.ownsRow_nil _ _ _ _, Below.refl _ _⟩
                case round =>
                  obtain ⟨k, hk, rfl, hown, hb⟩ := hrel
                  have hpk := pickTo_le ka sg k
                  by_cases hlt : k < m
                  · have hog5 : og < w5.heap.size := hg5.lt
                    have hx0 : wr.cell? ⟨og, (lo + k) * 2, none⟩ = some (.int .u64 (at0 sg k)) := by
                      rw [hb.cell (p := ⟨og, (lo + k) * 2, none⟩) hog5, hg5.c0 (lo + k) (by have := HL.out; omega), at0, at0, HAT.out k hlt]
                    have hx1 : wr.cell? ⟨og, (lo + k) * 2 + 1, none⟩ = some (.int .i64 (us1 sg k)) := by
                      rw [hb.cell (p := ⟨og, (lo + k) * 2 + 1, none⟩) hog5, hg5.c1 (lo + k) (by have := HL.out; omega), us1, us1, HAT.out k hlt]
                    have hpick : ((ka || decide (0 < us1 sg k)) = true) ∨ (ka = false ∧ decide (0 < us1 sg k) = false) := by
                      cases ka <;> simp <;> omega
                    rcases hpick with hyes | ⟨rfl, hno⟩
                    · have HY : Hid (pickTo ka sg (k + 1) = pickTo ka sg k ++ [pr sg k]) := pickTo_hit ka sg k hyes
                      have hyes' : (ka = true) ∨ (ka = false ∧ 0 < us1 sg k) := by
                        cases ka
                        · exact .inr ⟨rfl, by simpa using hyes⟩
                        · exact .inl rfl
                      clear hyes
                      rcases hyes' with rfl | ⟨rfl, hpos⟩
                      all_goals
                        go_wp2_with (at_builtin; refine wpList_append_own _ rfl _ _ 25 rfl w5.heap.size 28 i0 (.agg #[.int .u64 0, .int .i64 0]) 2 16 Yba.underlying25 hi hz0 hz1 hz2 rfl (by decide) _ _ _ rfl ((hown.alloc _).alloc _) ⟨wr.heap.size + 1, 0, none⟩ 1 1 [.int .u64 (at0 sg k), .int .i64 (us1 sg k)] rfl rfl (pair_new _ _ _ _) (pair_one _ _) (by unfold maxLen; omega) (by omega) (by have := hb.size; simp; omega) ?_)
                        intro v' w7 hown' hgrow' _
                        have hb7 : Below w5.heap.size w5 w7 := ((hb.alloc hb.size _).alloc (by have := hb.size; simp; omega) _).grown hgrow' (by have := hb.size; simp; omega) (fun q h => (hown.lt q h).1)
                        have hown7 := pick_step HY.out hown'
                        clear hown' hgrow' hown hb hx0 hx1
                        go_wp2
                        go_roundw
                        case rel => exact ⟨k + 1, by omega, by go_num, hown7, hb7⟩
                        case measure => simp [intOf]; omega
                    · have HY : Hid (pickTo false sg (k + 1) = pickTo false sg k) := pickTo_miss false sg k (by simp [hno])
                      have hno' : ¬ 0 < us1 sg k := by simpa using hno
                      go_wp2
                      go_roundw
                      case rel => exact ⟨k + 1, by omega, by go_num, by rw [HY.out]; exact hown.alloc _, hb.alloc hb.size _⟩
                      case measure => simp [intOf]; omega
                  · obtain rfl : m = k := by omega
                    have hbs5 : bs < w5.heap.size := World.block_lt_of_cell? _ _ hc5
                    have hq0 := (hb.cell (p := ⟨bs, 0, none⟩) hbs5).trans hc5
                    have hq1 := (hb.cell (p := ⟨bs, 1, none⟩) hbs5).trans hl5
                    have hq2 := (hb.cell (p := ⟨bs, 2, none⟩) hbs5).trans ho5
                    have hqr : RowAt wr w.heap.size vs := hr5.of_block (hb.block _ hr5.lt)
                    have hqb : Below w.heap.size w wr := hb5.trans (hb.mono hb5.size)
                    clear hb hc5 hl5 ho5 hr5 hb5 hg5
                    generalize pickTo ka sg m = res at *
                    have hq3 : ∀ i, i < res.length → wr.cell? ⟨w.heap.size, st * 2 + i * 2, none⟩ = some (.int .u64 (at0 res i)) := fun i h => by
                      have := hqr.c0 (st + i) (by have := HL.out; have := HV.out; omega)
                      rw [at0, HR.out i h, Nat.add_mul] at this
                      exact this
                    have hq4 : ∀ i, i < res.length → wr.cell? ⟨w.heap.size, st * 2 + i * 2 + 1, none⟩ = some (.int .i64 (us1 res i)) := fun i h => by
                      have := hqr.c1 (st + i) (by have := HL.out; have := HV.out; omega)
                      rw [us1, HR.out i h, Nat.add_mul] at this
                      exact this
                    obtain ⟨L, hL⟩ : ∃ L, L = res.length := ⟨_, rfl⟩
                    rw [← hL] at hq0 hq3 hq4 hown hpk
                    rcases hown.2 with ⟨rfl, h0⟩ | ⟨gw, capw, cur, rfl, hbg, _, _, _, _, _⟩
                    · have h0' : L = 0 := h0
                      clear hL
                      subst h0'
                      go_wp2
                      go_loop [24] (fun i => i = .int .i64 0) (fun _ => 0)
                      case atStart => rfl
                      case round =>
                        obtain rfl := hrel
                        go_wp2
                        go_quiet (fail)
                        go_wp2_with fail
                        refine (load_any bs 2 old _ (by exact hq2)).mono ?_
                        rintro e w9 ⟨rfl, rfl⟩
                        go_wp2
                        go_ret
                        exact ⟨rfl, below_drewN hqb _⟩
                    · have hw0 : ∀ i, i < L → wr.cell? ⟨gw, i * 2, none⟩ = some (.int .u64 (at0 res i)) := fun i h => by
                        rw [hown.cellAt (i * 2) (by omega), flat_get0]
                        simp [at0, pr, List.getElem?_eq_getElem (show i < res.length by omega)]
                      have hw1 : ∀ i, i < L → wr.cell? ⟨gw, i * 2 + 1, none⟩ = some (.int .i64 (us1 res i)) := fun i h => by
                        rw [hown.cellAt (i * 2 + 1) (by omega), flat_get1]
                        simp [us1, pr, List.getElem?_eq_getElem (show i < res.length by omega)]
                      have hL20 : L ≤ 1048576 := by omega
                      clear hL
                      go_wp2
                      go_loopw [24] (fun i wq => ∃ k nq : Nat, k ≤ L ∧ i = .int .i64 k ∧ wr.drewN nq = wq) (fun i _ => L - (intOf i).toNat)
                      case atStart => exact ⟨0, 0, Nat.zero_le _, rfl, rfl⟩
                      case round =>
                        rename_i wq _
                        obtain ⟨k, nq, hk, rfl, rfl⟩ := hrel
                        by_cases hlt : k < L
                        · have c0 := hw0 k hlt
                          have c1 := hw1 k hlt
                          have c3 := hq3 k hlt
                          have c4 := hq4 k hlt
                          have hlt' : (k : Int) < (L : Int) := by omega
                          clear hw0 hw1 hq3 hq4
                          go_wp2
                          go_quiet (fail)
                          go_wp2_with fail
                          go_roundw
                          case rel => exact ⟨k + 1, _, by omega, by go_num, rfl⟩
                          case measure => simp [intOf]; omega
                        · have hst0 : (0 : Int) ≤ (st : Int) := by omega
                          clear hw0 hw1 hq3 hq4
                          by_cases hpos : 0 < L
                          · have hg0 : (0 : Int) < (L : Int) := by omega
                            have hstn' : (st : Int) < (n : Int) := by omega
                            have hgd : decide ((0 : Int) < (L : Int)) = true := decide_eq_true hg0
                            have hpn := fun wx => run_neq_same (P := Yba.prog) 38 28 ⟨w.heap.size, st * 2, none⟩ 1 Yba.underlying38 Yba.size28 wx
                            go_wp2
                            go_quiet (fail)
                            go_wp2_with fail
                            refine (load_any bs 2 old _ (by exact hq2)).mono ?_
                            rintro e w9 ⟨rfl, rfl⟩
                            go_wp2
                            go_ret
                            exact ⟨rfl, below_drewN hqb _⟩
                          · have hgd : decide ((0 : Int) < (L : Int)) = false := decide_eq_false (by omega)
                            go_wp2
                            go_quiet (fail)
                            go_wp2_with fail
                            refine (load_any bs 2 old _ (by exact hq2)).mono ?_
                            rintro e w9 ⟨rfl, rfl⟩
                            go_wp2
                            go_ret
                            exact ⟨rfl, below_drewN hqb _⟩

end Go.Proofs.Ybulkdoac.lawS5748CWhole
