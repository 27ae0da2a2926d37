/-
  S5753B: THE LAW, WALKED.
-/
import Derived.Test.YbulkdocuFlat
import Derived.Deep.CutBlock
import Derived.Laws.Cover3
import Derived.Deep.DeepCutAuto
namespace Go.Proofs.Ybulkdocu
open Go.RowKit Go.Sort
set_option linter.unusedVariables false
set_option linter.unusedSimpArgs false

set_option maxHeartbeats 400000 in
set_option maxRecDepth 100000 in
theorem lawB_big (a0 a1 a2 : Option Addr) (len0 cap0 len1 cap1 len2 cap2 : Nat) (w : World) (h : 4096 < len0 + len1 ∨ 4096 < len2) (h0 : len0 ≤ 140737488351232) (h1 : len1 ≤ 140737488351232) :
    Calls Yba.prog 4 #[.slice a0 len0 cap0, .slice a1 len1 cap1, .slice a2 len2 cap2] w fun e w' => e = .returned (.bool true) ∧ Below w.heap.size w w' := by
  by_cases h2 : 4096 < len0 + len1
  · have hz : (4096 : Int) < (len0 : Int) + (len1 : Int) := by omega
    go_enter Yba.func4, Yba.ntmps4
    go_wp2
    go_ret
    exact ⟨rfl, Below.refl _ _⟩
  · have hz : ¬ (4096 : Int) < (len0 : Int) + (len1 : Int) := by omega
    have hzd : decide ((4096 : Int) < (len0 : Int) + (len1 : Int)) = false := decide_eq_false hz
    have hz2 : (4096 : Int) < (len2 : Int) := by omega
    go_enter Yba.func4, Yba.ntmps4
    go_wp2
    go_ret
    exact ⟨rfl, Below.refl _ _⟩

theorem Bts.get {w : World} {a : Option Addr} {len cap : Nat} {bs : List Int} (h : Bts w a len cap bs) {i : Nat} (hi : i < len) :
    ∃ b off v, a = some ⟨b, off, none⟩ ∧ w.cell? ⟨b, off + i, none⟩ = some (.int .u8 (v : Nat)) ∧ v < 256 ∧ bs.getD i 0 = (v : Nat) := by
  rcases h.at' with ⟨_, h0, _⟩ | ⟨x, rfl, hc⟩
  · omega
  · obtain ⟨b, off, sp⟩ := x
    have hc0 := hc i hi
    have hsp : sp = none := by simpa [Addr.add] using World.cell?_spot (hc 0 (by omega))
    subst hsp
    rw [add_plain] at hc0
    have hb := h.byte (bs.getD i 0) (by
      have hl := h.eq
      rw [List.getD_eq_getElem?_getD, List.getElem?_eq_getElem (by omega)]
      exact List.getElem_mem _)
    refine ⟨b, off, (bs.getD i 0).toNat, rfl, ?_, by omega, by omega⟩
    rw [hc0, Int.toNat_of_nonneg hb.1]

theorem keys_take_succ (bs : List Int) (i v : Nat) (hi : i < bs.length) (hv : bs.getD i 0 = (v : Nat)) : keys (bs.take i) ++ [keyOf v] = keys (bs.take (i + 1)) := by
  rw [List.take_succ_eq_append_getElem hi]
  simp only [keys, List.map_append, List.map_cons, List.map_nil]
  rw [List.getD_eq_getElem?_getD, List.getElem?_eq_getElem hi] at hv
  simp at hv
  rw [hv]
  simp

theorem keys_app (a b : List Int) : keys (a ++ b) = keys a ++ keys b := by simp [keys]
theorem box_cell {w : World} {bx q : Nat} (h : w.heap[bx]? = some (.cells (nameArr q) 40)) : ∀ j v, (nameL q)[j]? = some v → w.cell? ⟨bx, j, none⟩ = some v := by
  intro j v hj
  rw [World.cell?, h]
  simpa [nameArr] using hj
theorem nameArr_lit (k : Nat) (h : k < 12) : ∃ x y : Nat, nameArr k = #[.int .u8 (x : Nat), .int .u8 (y : Nat), .int .u8 0, .int .u8 0, .int .u8 0, .int .u8 0, .int .u8 0, .int .u8 0, .int .u8 0, .int .u8 0, .int .u8 0, .int .u8 0, .int .u8 0, .int .u8 0, .int .u8 0, .int .u8 0] := ⟨k / 2, k % 2, nameArr_eq k h⟩
theorem app_name (w2 : World) (kv x y : Nat) (h : nameArr kv = #[.int .u8 (x : Nat), .int .u8 (y : Nat), .int .u8 0, .int .u8 0, .int .u8 0, .int .u8 0, .int .u8 0, .int .u8 0, .int .u8 0, .int .u8 0, .int .u8 0, .int .u8 0, .int .u8 0, .int .u8 0, .int .u8 0, .int .u8 0]) : ∀ j u, (nameL kv)[j]? = some u → (w2.alloc (.cells #[.int .u8 (x : Nat), .int .u8 (y : Nat), .int .u8 0, .int .u8 0, .int .u8 0, .int .u8 0, .int .u8 0, .int .u8 0, .int .u8 0, .int .u8 0, .int .u8 0, .int .u8 0, .int .u8 0, .int .u8 0, .int .u8 0, .int .u8 0] 40)).cell? ((⟨w2.heap.size, 0, none⟩ : Addr).add j) = some u := by
  intro j u hj
  rw [← h, add_plain, Nat.zero_add]
  exact box_cells w2 kv j u hj

theorem nil_eql (t e : TypeId) (h : Yba.prog.underlying t = some (.slice e)) : ∀ W, (binOp .eql t (.slice none 0 0) (.slice none 0 0)).run Yba.prog W = .ok (.bool true) W := by
  intro W
  simp only [binOp]
  simp [run_equal_slice_nil W t e none 0 0 h]
theorem zero_equal : ∀ W, (Op.equalIn 10000 64 (.agg #[.int .i64 0, .int .i64 0, .int .i64 0, .int .u32 0, .int .u8 0]) (.agg #[.int .i64 0, .int .i64 0, .int .i64 0, .int .u32 0, .int .u8 0])).run Yba.prog W = .ok true W := by
  intro W
  have hS : Yba.prog.underlying 64 = some (.struct (Yba.prog.fieldsOf 64)) := by kernel_rfl
  have hp : Yba.prog.stoodInHeld 64 = false := by kernel_rfl
  rw [show (10000 : Nat) = 9999 + 1 from rfl, run_equalIn_agg W 9999 64 _ _ hS hp]
  simp only [Program.fieldsOf, Yba.underlying64]
  go_simp
theorem zero_guard : ∀ op a b W, (eqGuard op 64 a b (.agg #[.int .i64 0, .int .i64 0, .int .i64 0, .int .u32 0, .int .u8 0]) (.agg #[.int .i64 0, .int .i64 0, .int .i64 0, .int .u32 0, .int .u8 0])).run Yba.prog W = .ok () W := fun op a b W => run_eqGuard_agg W op 64 a b _ _ (by kernel_rfl)
/-- The zero entry's cells. -/
def zeroE : List Value := [.int .i64 0, .int .i64 0, .int .i64 0, .int .u32 0, .int .u8 0]
theorem zero_of_owns {w : World} {B g n : Nat} (h : w.ownsRow B 64 5 (.slice (some ⟨g, 0, none⟩) n n) n (madeCells #[.int .i64 0, .int .i64 0, .int .i64 0, .int .u32 0, .int .u8 0] (n * 5)).toList) :
    ∀ i, i < n → ∀ j v, zeroE[j]? = some v → w.cell? ⟨g, i * 5 + j, none⟩ = some v := by
  intro i hi j v hj
  have hj5 : j < 5 := (List.getElem?_eq_some_iff.1 hj).1
  have := h.cells (g := g) rfl (i * 5 + j) v (by
    have e : (i * 5 + j) % 5 = j := by omega
    have e2 : i * 5 + j < n * 5 := by omega
    simp only [madeCells, Array.toList_map, List.getElem?_map, Array.toList_range, List.getElem?_range e2, Option.map_some]
    rw [← hj]
    match j, hj5 with
    | 0, _ => simp [zeroE]
    | 1, _ => simp [zeroE, e]
    | 2, _ => simp [zeroE, e]
    | 3, _ => simp [zeroE, e]
    | 4, _ => simp [zeroE, e])
  rw [add_plain, Nat.zero_add] at this
  exact this

/-- All that the law's loops read. -/
structure All (w : World) (an nb c kb eb ab yb rb n m N : Nat) (K : List Nat) (D : Nat → Nat) : Prop where
  arch : Arch w ab an nb n c K
  row : Row w rb N n D
  srt : Sorted K m n N D
  ybx : w.cell? ⟨yb, 0, none⟩ = some (.slice (some ⟨rb, 0, none⟩) N N)
  parts : w.cell? ⟨an, 44, none⟩ = some (.slice none 0 0)
  blds : w.cell? ⟨an, 47, none⟩ = some (.slice none 0 0)
  ents : w.cell? ⟨an, 48, none⟩ = some (.slice (some ⟨eb, 0, none⟩) n n)
  mf : w.cell? ⟨an, 50, none⟩ = some (.int .i64 (m : Nat))
  nms : ∀ j u, (flatN K)[j]? = some u → w.cell? ⟨nb, j, none⟩ = some u
  kps : ∀ j u, (flatN K)[j]? = some u → w.cell? ⟨kb, j, none⟩ = some u
  zero : ∀ i, i < n → ∀ j v, zeroE[j]? = some v → w.cell? ⟨eb, i * 5 + j, none⟩ = some v
theorem All.kept {w w' : World} {an nb c kb eb ab yb rb n m N : Nat} {K : List Nat} {D : Nat → Nat} (h : All w an nb c kb eb ab yb rb n m N K D) (hb : Below w.heap.size w w') : All w' an nb c kb eb ab yb rb n m N K D :=
  ⟨h.arch.kept hb, h.row.kept hb, h.srt, keep_cell h.ybx hb, keep_cell h.parts hb, keep_cell h.blds hb, keep_cell h.ents hb, keep_cell h.mf hb, fun j u hj => keep_cell (h.nms j u hj) hb, fun j u hj => keep_cell (h.kps j u hj) hb, fun i hi j v hj => keep_cell (h.zero i hi j v hj) hb⟩

/-- The archive as the law lays it. -/
structure Laid (w : World) (an nb c kb eb n m : Nat) (K : List Nat) : Prop where
  a0 : Arch0 w an nb eb n c m K
  parts : w.cell? ⟨an, 44, none⟩ = some (.slice none 0 0)
  blds : w.cell? ⟨an, 47, none⟩ = some (.slice none 0 0)
  nms : ∀ j u, (flatN K)[j]? = some u → w.cell? ⟨nb, j, none⟩ = some u
  kps : ∀ j u, (flatN K)[j]? = some u → w.cell? ⟨kb, j, none⟩ = some u
  zero : ∀ i, i < n → ∀ j v, zeroE[j]? = some v → w.cell? ⟨eb, i * 5 + j, none⟩ = some v
theorem Laid.all {w w' : World} {an nb c kb eb ab yb rb n m N : Nat} {K : List Nat} {D : Nat → Nat} (h : Laid w an nb c kb eb n m K) (h1 : Arch w' ab an nb n c K) (h2 : Row w' rb N n D) (h3 : Sorted K m n N D)
    (h4 : w'.cell? ⟨yb, 0, none⟩ = some (.slice (some ⟨rb, 0, none⟩) N N)) (hb : Below w.heap.size w w') : All w' an nb c kb eb ab yb rb n m N K D :=
  ⟨h1, h2, h3, h4, keep_cell h.parts hb, keep_cell h.blds hb, keep_cell h.a0.ents hb, keep_cell h.a0.mf hb, fun j u hj => keep_cell (h.nms j u hj) hb, fun j u hj => keep_cell (h.kps j u hj) hb, fun i hi j v hj => keep_cell (h.zero i hi j v hj) hb⟩
theorem arch_laid (w : World) (nb c eb kb n m : Nat) (K : List Nat) (hn : n = K.length) (hk : ∀ i, K.getD i 0 < 12) (h1 : ∀ j u, (flatN K)[j]? = some u → w.cell? ⟨nb, j, none⟩ = some u) (h2 : ∀ j u, (flatN K)[j]? = some u → w.cell? ⟨kb, j, none⟩ = some u)
    (h3 : ∀ i, i < n → ∀ j v, zeroE[j]? = some v → w.cell? ⟨eb, i * 5 + j, none⟩ = some v) :
    Laid (w.alloc (.cells #[.int .u8 0, .int .u8 0, .int .u8 0, .int .u8 0, .int .u16 0, .int .u8 0, .int .u8 0, .int .u32 0, .int .u32 0, .int .u16 0, .int .u32 0, .int .u32 0, .int .u64 0, .int .u64 0, .int .u64 0, .int .u64 0, .int .u64 0, .int .u64 0, .int .u64 0, .int .u64 0, .int .u64 0, .int .u64 0, .int .u8 0, .int .u8 0, .int .u8 0, .int .u8 0, .int .u8 0, .int .u8 0, .int .u8 0, .int .u8 0, .int .u8 0, .int .u8 0, .int .u8 0, .int .u8 0, .int .u8 0, .int .u8 0, .int .u8 0, .int .u8 0, .int .u8 0, .int .u8 0, .int .u8 0, .int .u8 0, .int .u8 0, .int .u8 0, .slice none 0 0, .int .u64 0, .string ⟨#[]⟩, .slice none 0 0, .slice (some ⟨eb, 0, none⟩) n n, .slice (some ⟨nb, 0, none⟩) n c, .int .i64 (m : Nat)] 57)) w.heap.size nb c kb eb n m K := by
  refine ⟨⟨?_, ?_, ?_, fun i hi j v hj => ?_, fun i _ => hk i⟩, ?_, ?_, fun j u hj => old_cell (h1 j u hj) _, fun j u hj => old_cell (h2 j u hj) _, fun i hi j v hj => old_cell (h3 i hi j v hj) _⟩
  · rw [World.cell?, heap_alloc_self]; rfl
  · rw [World.cell?, heap_alloc_self]; rfl
  · rw [World.cell?, heap_alloc_self]; rfl
  · refine old_cell (h1 _ _ ?_) _
    rw [flatN_get K i j (by omega) (nameL_lt hj)]
    exact hj
  · rw [World.cell?, heap_alloc_self]; rfl
  · rw [World.cell?, heap_alloc_self]; rfl

set_option maxHeartbeats 1000000 in
set_option maxRecDepth 100000 in
theorem lawB_main (a0 a1 a2 : Option Addr) (len0 cap0 len1 cap1 len2 cap2 : Nat) (b0 b1 b2 : List Int) (w : World) (hB0 : Bts w a0 len0 cap0 b0) (hB1 : Bts w a1 len1 cap1 b1) (hB2 : Bts w a2 len2 cap2 b2) (hs : len0 + len1 ≤ 4096) (hq : len2 ≤ 4096) :
    Calls Yba.prog 4 #[.slice a0 len0 cap0, .slice a1 len1 cap1, .slice a2 len2 cap2] w fun e w' => e = .returned (.bool true) ∧ Below w.heap.size w w' := by
  obtain ⟨i40, hi40, hz40, hs40, hby40⟩ := info_parts Yba.info40
  obtain ⟨i64, hi64, hz64, hs64, hby64⟩ := info_parts Yba.info64
  have hz1 : ¬ (4096 : Int) < (len0 : Int) + (len1 : Int) := by omega
  have hz1d : decide ((4096 : Int) < (len0 : Int) + (len1 : Int)) = false := decide_eq_false hz1
  have hz2 : ¬ (4096 : Int) < (len2 : Int) := by omega
  have hz2d : decide ((4096 : Int) < (len2 : Int)) = false := decide_eq_false hz2
  have hl0 := hB0.eq
  have hl1 := hB1.eq
  go_enter Yba.func4, Yba.ntmps4
  go_wp2_with (at_make; refine wpList_make_own _ rfl _ _ 38 rfl w.heap.size 40 i40 _ 16 Yba.underlying38 hi40 hz40 hs40 _ _ _ (len0 + len1) rfl rfl (by omega) ?mk1 ?mk2 (Nat.le_refl _) ?_)
  case mk1 => omega
  case mk2 => unfold maxLen; omega
  intro w1 hown1 hg1
  have hb1 : Below w.heap.size w w1 := (Below.refl _ _).grown hg1 (Nat.le_refl _) (fun k h => by cases h)
  have hN0 : NRow w1 w.heap.size (.slice (some ⟨w.heap.size, 0, none⟩) 0 (len0 + len1)) [] := ⟨hown1, by simp⟩
  clear hown1 hg1
  go_wp2_with fail
  go_loopg [9, 47] len0 (fun gk v9 v47 wx => ∃ k, k ≤ len0 ∧ gk = len0 - k ∧ v47 = .int .i64 k ∧ NRow wx w.heap.size v9 (keys (b0.take k)) ∧ Below w.heap.size w wx)
  case atStart => exact ⟨0, by omega, rfl, rfl, hN0, hb1⟩
  case round =>
    clear hN0 hb1
    obtain ⟨k, hk, rfl, rfl, hN, hb⟩ := hrel
    by_cases hlt : k < len0
    · have hkz : (k : Int) < (len0 : Int) := by omega
      obtain ⟨b, off, v, rfl, hc, hv, hbv⟩ := hB0.get hlt
      have hc' := keep_cell hc hb
      have HK : Hid (keys (b0.take k) ++ [keyOf v] = keys (b0.take (k + 1))) := keys_take_succ b0 k v (by omega) hbv
      clear hc hbv
      go_wp2_with fail
      refine (nameOf v hv _).mono ?_
      rintro e w2 ⟨rfl, hg2⟩
      have hN2 := hN.kept hg2.below
      have hb2 : Below w.heap.size w w2 := hb.trans (hg2.below.mono hb.size)
      have hkk := keyOf_lt v
      generalize keyOf v = kv at *
      clear hN hc' hg2
      obtain ⟨x, y, hxy⟩ := nameArr_lit kv hkk
      have hnw := app_name w2 kv x y hxy
      have hN3 : NRow (w2.alloc (.cells #[.int .u8 (x : Nat), .int .u8 (y : Nat), .int .u8 0, .int .u8 0, .int .u8 0, .int .u8 0, .int .u8 0, .int .u8 0, .int .u8 0, .int .u8 0, .int .u8 0, .int .u8 0, .int .u8 0, .int .u8 0, .int .u8 0, .int .u8 0] 40)) w.heap.size u9 (keys (b0.take k)) := hN2.kept ((Below.refl _ _).alloc (Nat.le_refl _) _)
      have hb3 : Below w.heap.size w (w2.alloc (.cells #[.int .u8 (x : Nat), .int .u8 (y : Nat), .int .u8 0, .int .u8 0, .int .u8 0, .int .u8 0, .int .u8 0, .int .u8 0, .int .u8 0, .int .u8 0, .int .u8 0, .int .u8 0, .int .u8 0, .int .u8 0, .int .u8 0, .int .u8 0] 40)) := hb2.alloc hb2.size _
      have hl3 : (keys (b0.take k)).length ≤ 4096 := by simp [keys]; omega
      unfold nameV
      rw [hxy]
      clear hxy hN2 hb2
      go_wp2_with (at_builtin; refine wpList_append_own _ rfl _ _ 38 rfl w.heap.size 40 i40 _ 16 16 Yba.underlying38 hi40 hz40 hs40 hby40 rfl (by decide) _ _ _ rfl hN3.own ⟨w2.heap.size, 0, none⟩ 1 1 (nameL kv) rfl rfl hnw (nameL_one kv) ?ap1 ?ap2 hb3.size ?_)
      case ap1 => unfold maxLen; omega
      case ap2 => omega
      intro v' w4 hown4 hg4 hnil
      have hN4 : NRow w4 w.heap.size v' (keys (b0.take (k + 1))) := by
        rw [← HK.out]
        refine ⟨?_, fun e => hnil e⟩
        rw [← flatN_snoc, List.length_append]
        exact hown4
      have hb4 : Below w.heap.size w w4 := hb3.grown hg4 hb3.size (fun k' hk' => (hN3.own.lt k' hk').1)
      clear hown4 hg4 hnil hN3 hb3 hnw
      go_wp2
      go_roundg (len0 - (k + 1))
      case rel => exact ⟨k + 1, by omega, by omega, by go_num, hN4, hb4⟩
      all_goals omega
    · obtain rfl : k = len0 := by omega
      rw [show b0.take k = b0 by rw [← hl0]; exact List.take_length] at hN
      clear hlt hk
      go_wp2_with fail
      go_loopg [9, 59] len1 (fun gk v9 v59 wx => ∃ t, t ≤ len1 ∧ gk = len1 - t ∧ v59 = .int .i64 t ∧ NRow wx w.heap.size v9 (keys b0 ++ keys (b1.take t)) ∧ Below w.heap.size w wx)
      case atStart => exact ⟨0, by omega, rfl, rfl, by simpa [keys] using hN, hb⟩
      case round =>
        clear hN hb
        obtain ⟨t, ht, rfl, rfl, hN, hb⟩ := hrel
        by_cases hlt : t < len1
        · have hkz : (t : Int) < (len1 : Int) := by omega
          obtain ⟨b, off, v, rfl, hc, hv, hbv⟩ := hB1.get hlt
          have hc' := keep_cell hc hb
          have HK : Hid ((keys b0 ++ keys (b1.take t)) ++ [keyOf v] = keys b0 ++ keys (b1.take (t + 1))) := by
            show (keys b0 ++ keys (b1.take t)) ++ [keyOf v] = keys b0 ++ keys (b1.take (t + 1))
            rw [List.append_assoc, keys_take_succ b1 t v (by omega) hbv]
          clear hc hbv
          go_wp2_with fail
          refine (nameOf v hv _).mono ?_
          rintro e w2 ⟨rfl, hg2⟩
          have hN2 := hN.kept hg2.below
          have hb2 : Below w.heap.size w w2 := hb.trans (hg2.below.mono hb.size)
          have hkk := keyOf_lt v
          generalize keyOf v = kv at *
          clear hN hc' hg2
          obtain ⟨x, y, hxy⟩ := nameArr_lit kv hkk
          have hnw := app_name w2 kv x y hxy
          have hN3 : NRow (w2.alloc (.cells #[.int .u8 (x : Nat), .int .u8 (y : Nat), .int .u8 0, .int .u8 0, .int .u8 0, .int .u8 0, .int .u8 0, .int .u8 0, .int .u8 0, .int .u8 0, .int .u8 0, .int .u8 0, .int .u8 0, .int .u8 0, .int .u8 0, .int .u8 0] 40)) w.heap.size u9 (keys b0 ++ keys (b1.take t)) := hN2.kept ((Below.refl _ _).alloc (Nat.le_refl _) _)
          have hb3 : Below w.heap.size w (w2.alloc (.cells #[.int .u8 (x : Nat), .int .u8 (y : Nat), .int .u8 0, .int .u8 0, .int .u8 0, .int .u8 0, .int .u8 0, .int .u8 0, .int .u8 0, .int .u8 0, .int .u8 0, .int .u8 0, .int .u8 0, .int .u8 0, .int .u8 0, .int .u8 0] 40)) := hb2.alloc hb2.size _
          have hl3 : (keys b0 ++ keys (b1.take t)).length ≤ 4096 := by simp [keys]; omega
          generalize keys b0 ++ keys (b1.take t) = KK at *
          unfold nameV
          rw [hxy]
          clear hxy hN2 hb2
          go_wp2_with (at_builtin; refine wpList_append_own _ rfl _ _ 38 rfl w.heap.size 40 i40 _ 16 16 Yba.underlying38 hi40 hz40 hs40 hby40 rfl (by decide) _ _ _ rfl hN3.own ⟨w2.heap.size, 0, none⟩ 1 1 (nameL kv) rfl rfl hnw (nameL_one kv) ?aq1 ?aq2 hb3.size ?_)
          case aq1 => unfold maxLen; omega
          case aq2 => omega
          intro v' w4 hown4 hg4 hnil
          have hN4 : NRow w4 w.heap.size v' (keys b0 ++ keys (b1.take (t + 1))) := by
            rw [← HK.out]
            refine ⟨?_, fun e => hnil e⟩
            rw [← flatN_snoc, List.length_append]
            exact hown4
          have hb4 : Below w.heap.size w w4 := hb3.grown hg4 hb3.size (fun k' hk' => (hN3.own.lt k' hk').1)
          clear hown4 hg4 hnil hN3 hb3 hnw
          go_wp2
          go_roundg (len1 - (t + 1))
          case rel => exact ⟨t + 1, by omega, by omega, by go_num, hN4, hb4⟩
          all_goals omega
        · obtain rfl : t = len1 := by omega
          rw [show b1.take t = b1 by rw [← hl1]; exact List.take_length] at hN
          clear hlt ht
          obtain ⟨K, hKe⟩ : ∃ K, K = keys b0 ++ keys b1 := ⟨_, rfl⟩
          rw [← hKe] at hN
          have hKlen : K.length = k + t := by rw [hKe]; simp [keys]; omega
          have hKlt : ∀ i, K.getD i 0 < 12 := by rw [hKe, ← keys_app]; exact keys_lt _
          clear hKe
          obtain ⟨n, hn⟩ : ∃ n, n = K.length := ⟨_, rfl⟩
          have hsum : (k : Int) + (t : Int) = (n : Int) := by omega
          obtain ⟨nb, c, rfl, hnb1, hnb2, hcn⟩ := hN.shape
          have hn4 : n ≤ 4096 := by omega
          rw [hsum]
          rw [← hn] at hN ⊢
          have hcl := cloneN nb c K wr (by omega) hcn
          rw [← hn] at hcl
          have HLEN : Hid (n = K.length) := hn
          have HKT : Hid (k + t = n) := by show k + t = n; omega
          clear hKlen hn
          go_wp2_with fail
          refine hcl.mono ?_
          rintro e w5 ⟨kv, rfl, hNk, hb5⟩
          obtain ⟨kb, kc, rfl, hkb1, hkb2, hck⟩ := hNk.shape
          rw [← HLEN.out]
          have hcn5 : ∀ j u, (flatN K)[j]? = some u → w5.cell? ⟨nb, j, none⟩ = some u := fun j u hj => keep_cell (hcn j u hj) hb5
          have hb5w : Below w.heap.size w w5 := hb.trans (hb5.mono hb.size)
          have hnb5 : nb < w5.heap.size := Nat.lt_of_lt_of_le hnb2 hb5.size
          clear hcl hNk hb5 hcn hN hb
          go_wp2_with (at_make; refine wpList_make_full _ rfl _ _ 44 rfl w5.heap.size 64 i64 _ 5 Yba.underlying44 hi64 hz64 hs64 _ _ _ _ n rfl rfl rfl rfl ?mm1 ?mm2 (Nat.le_refl _) ?_)
          case mm1 => rw [hby64]; omega
          case mm2 => unfold maxLen; omega
          intro w7 hownE hgE
          have hb7 : Below w5.heap.size w5 w7 := (Below.refl _ _).grown hgE (Nat.le_refl _) (fun k h => by cases h)
          have hze := zero_of_owns hownE
          have hcn7 : ∀ j u, (flatN K)[j]? = some u → w7.cell? ⟨nb, j, none⟩ = some u := fun j u hj => keep_cell (hcn5 j u hj) hb7
          have hck7 : ∀ j u, (flatN K)[j]? = some u → w7.cell? ⟨kb, j, none⟩ = some u := fun j u hj => keep_cell (hck j u hj) hb7
          have hb7w : Below w.heap.size w w7 := hb5w.trans (hb7.mono hb5w.size)
          have hnb7 : nb < w7.heap.size := Nat.lt_of_lt_of_le hnb5 hb7.size
          clear hcn5 hck hb5w hb7 hownE hgE hnb5 hkb1 hkb2 hnb1 hnb2
          go_wp2_with fail
          have hlay := arch_laid w7 nb c w5.heap.size kb n k K HLEN.out hKlt hcn7 hck7 hze
          generalize w5.heap.size = eb at *
          generalize hw8 : w7.alloc _ = w8 at *
          have hb8 : Below w7.heap.size w7 w8 := by rw [← hw8]; exact (Below.refl _ _).alloc (Nat.le_refl _) _
          have hs8 : w8.heap.size = w7.heap.size + 1 := by rw [← hw8]; simp
          clear hw8
          refine (chunk w7.heap.size nb eb n c k t K w8 hlay.a0 HKT.out hn4 (by omega) (by omega)).mono ?_
          rintro e w9 ⟨ab, yb, rb, D, rfl, hAr, hRw, hSr, hyb, hb9⟩
          have hAll : All w9 w7.heap.size nb c kb eb ab yb rb n k t K D := hlay.all hAr hRw hSr hyb hb9
          have hb9w : Below w.heap.size w w9 := (hb7w.trans (hb8.mono hb7w.size)).trans (hb9.mono (by have := hb7w.size; omega))
          clear hlay hAr hRw hSr hyb hb9 hb8 hs8 hb7w hnb7 hcn7 hck7 hze
          generalize w7.heap.size = an at *
          go_wp2_with fail
          go_loopg [81] len2 (fun gk v81 wx => ∃ i, i ≤ len2 ∧ gk = len2 - i ∧ v81 = .int .i64 i ∧ All wx an nb c kb eb ab yb rb n k t K D ∧ Below w.heap.size w wx)
          case atStart => exact ⟨0, by omega, rfl, rfl, hAll, hb9w⟩
          case round =>
            clear hAll hb9w
            obtain ⟨i, hi, rfl, rfl, hAll, hb⟩ := hrel
            by_cases hlt : i < len2
            · have hiz : (i : Int) < (len2 : Int) := by omega
              obtain ⟨b, off, v, rfl, hc, hv, hbv⟩ := hB2.get hlt
              have hc' := keep_cell hc hb
              clear hc hbv
              go_wp2_with fail
              refine (nameOf v hv _).mono ?_
              rintro e w2 ⟨rfl, hg2⟩
              have hA2 := hAll.kept hg2.below
              have hb2 : Below w.heap.size w w2 := hb.trans (hg2.below.mono hb.size)
              have hkk := keyOf_lt v
              generalize keyOf v = q at *
              clear hAll hc' hg2 hb
              obtain ⟨x, y, hxy⟩ := nameArr_lit q hkk
              have hA3 : All (w2.alloc (.cells #[.int .u8 (x : Nat), .int .u8 (y : Nat), .int .u8 0, .int .u8 0, .int .u8 0, .int .u8 0, .int .u8 0, .int .u8 0, .int .u8 0, .int .u8 0, .int .u8 0, .int .u8 0, .int .u8 0, .int .u8 0, .int .u8 0, .int .u8 0] 40)) an nb c kb eb ab yb rb n k t K D := hA2.kept ((Below.refl _ _).alloc (Nat.le_refl _) _)
              have hb3 : Below w.heap.size w (w2.alloc (.cells #[.int .u8 (x : Nat), .int .u8 (y : Nat), .int .u8 0, .int .u8 0, .int .u8 0, .int .u8 0, .int .u8 0, .int .u8 0, .int .u8 0, .int .u8 0, .int .u8 0, .int .u8 0, .int .u8 0, .int .u8 0, .int .u8 0, .int .u8 0] 40)) := hb2.alloc hb2.size _
              have hbx : (w2.alloc (.cells #[.int .u8 (x : Nat), .int .u8 (y : Nat), .int .u8 0, .int .u8 0, .int .u8 0, .int .u8 0, .int .u8 0, .int .u8 0, .int .u8 0, .int .u8 0, .int .u8 0, .int .u8 0, .int .u8 0, .int .u8 0, .int .u8 0, .int .u8 0] 40)).heap[w2.heap.size]? = some (.cells (nameArr q) 40) := by rw [← hxy]; exact heap_alloc_self _ _
              unfold nameV
              rw [hxy]
              clear hA2 hb2 hxy
              go_upto_block 6 with fail
              generalize w2.alloc (.cells #[.int .u8 (x : Nat), .int .u8 (y : Nat), .int .u8 0, .int .u8 0, .int .u8 0, .int .u8 0, .int .u8 0, .int .u8 0, .int .u8 0, .int .u8 0, .int .u8 0, .int .u8 0, .int .u8 0, .int .u8 0, .int .u8 0, .int .u8 0] 40) = w3 at *
              generalize w2.heap.size = bx at *
              have HRK : Hid (∀ W, Grew w3 W → ∀ j, j < n → W.rangeAt kb (j * 16) (nameL (K.getD j 0)) ∧ W.rangeAt bx 0 (nameL q)) := fun W hW j hj =>
                ⟨fun j' v hv => keep_cell (hA3.kps _ _ (by rw [flatN_get K j j' (by have := HLEN.out; omega) (nameL_lt hv)]; exact hv)) hW.below,
                  fun j' v hv => by rw [Nat.zero_add]; exact keep_cell (box_cell hbx j' v hv) hW.below⟩
              have hu40 := Yba.underlying40
              have hs2 := size40 q
              go_cut [20, 21] (fun v20 v21 wx => ∃ (r : Nat) (ok : Bool), v20 = .int .i64 r ∧ v21 = .bool ok ∧ Want K k n q r ok ∧ Grew w3 wx)
              case first =>
                have HKT' : Hid (k ≤ n) := by show k ≤ n; have := HKT.out; omega
                clear hA3 hb3 hbx
                go_wp2_with fail
                go_loopg [20, 21, 22] (n - k) (fun gk v20 v21 v22 wx => ∃ j, k ≤ j ∧ j ≤ n ∧ gk = n - j ∧ v22 = .int .i64 j ∧ v20 = .int .i64 0 ∧ v21 = .bool false ∧ Grew w3 wx ∧ ∀ i', k ≤ i' → i' < j → K.getD i' 0 ≠ q)
                case atStart => exact ⟨k, Nat.le_refl _, HKT'.out, rfl, rfl, rfl, rfl, Grew.refl _, fun i' h1 h2 => by omega⟩
                case round =>
                  obtain ⟨j, hkj, hjn, rfl, rfl, rfl, rfl, hg, hall⟩ := hrel
                  have HALL : Hid (∀ i', k ≤ i' → i' < j → K.getD i' 0 ≠ q) := hall
                  clear hall
                  by_cases hlt2 : j < n
                  · have hjz : (j : Int) < (n : Int) := by omega
                    have hkey := hKlt j
                    have hs1 := size40 (K.getD j 0)
                    have HRJ : Hid (∀ W, Grew wr W → W.rangeAt kb (j * 16) (nameL (K.getD j 0)) ∧ W.rangeAt bx 0 (nameL q)) := fun W hW => HRK.out W (hg.trans hW) j hlt2
                    have hEQ : ∀ W, (Op.equalIn 10000 40 (.agg (nameL (K.getD j 0)).toArray) (.agg (nameL q).toArray)).run Yba.prog W = .ok (decide (K.getD j 0 = q)) W := fun W => equalIn_name _ _ hkey hkk W
                    have hGD : ∀ op a b W, (eqGuard op 40 a b (.agg (nameL (K.getD j 0)).toArray) (.agg (nameL q).toArray)).run Yba.prog W = .ok () W := fun op a b W => run_eqGuard_agg W op 40 a b _ _ eqGuard_name
                    have HWT : Hid (K.getD j 0 = q → Want K k n q j true) := fun h => .inl ⟨rfl, hkj, hlt2, h, HALL.out⟩
                    have HNX : Hid (K.getD j 0 ≠ q → ∀ i', k ≤ i' → i' < j + 1 → K.getD i' 0 ≠ q) := fun h i' h1 h2 => by
                      rcases Nat.lt_or_ge i' j with h3 | h3
                      · exact HALL.out i' h1 h3
                      · obtain rfl : i' = j := by omega
                        exact h
                    generalize K.getD j 0 = kj at *
                    go_upto_region 28 with fail
                    go_cut [98] (fun v98 wx => v98 = .bool (decide (kj = q)) ∧ Grew wr wx)
                    case first =>
                      refine wp_region_held_drew (S := (fun W => W.rangeAt kb (j * 16) (nameL kj) ∧ W.rangeAt bx 0 (nameL q))) (by kernel_rfl) ?_ (fun hHeld => ?_)
                      · exact HRJ.out _ ((Grew.refl _).drew)
                      refine wpAnyH_take (i := 0) (oi := { dst := some 93, op := Op.move (Operand.tmp 14), type := 38, pos := "zz_law_s5753b.go:41", after := #[], guard := none }) (v := ?va0) rfl (by kernel_rfl) (by kernel_rfl) (by kernel_rfl) (fun _ _ _ h => h) (Or.inl ⟨by rfl, ?ya0⟩) (by assumption) ?ra0
                      case ya0 => intro w hSw; (try dsimp only at hSw); go_simp; (try with_reducible rfl)
                      try simp only [Act.put, List.setIfInBounds_toArray, List.set_cons_zero, List.set_cons_succ]
                      refine wpAnyH_take (i := 1) (oi := { dst := some 94, op := Op.move (Operand.tmp 22), type := 3, pos := "zz_law_s5753b.go:41", after := #[], guard := none }) (v := ?va1) rfl (by kernel_rfl) (by kernel_rfl) (by kernel_rfl) (fun _ _ _ h => h) (Or.inl ⟨by rfl, ?ya1⟩) (by assumption) ?ra1
                      case ya1 => intro w hSw; (try dsimp only at hSw); go_simp; (try with_reducible rfl)
                      try simp only [Act.put, List.setIfInBounds_toArray, List.set_cons_zero, List.set_cons_succ]
                      refine wpAnyH_take (i := 2) (oi := { dst := some 95, op := Op.indexAddr 38 (Operand.tmp 93) (Operand.tmp 94), type := 0, pos := "zz_law_s5753b.go:41", after := #[{ on := 0, ground := Ground.data }, { on := 1, ground := Ground.data }], guard := none }) (v := ?va2) rfl (by kernel_rfl) (by kernel_rfl) (by kernel_rfl) (fun _ _ _ h => h) (Or.inl ⟨by rfl, ?ya2⟩) (by assumption) ?ra2
                      case ya2 => intro w hSw; (try dsimp only at hSw); go_simp; (try with_reducible rfl)
                      try simp only [Act.put, List.setIfInBounds_toArray, List.set_cons_zero, List.set_cons_succ]
                      refine wpAnyH_take (i := 3) (oi := { dst := some 96, op := Op.load 40 (Operand.tmp 95), type := 40, pos := "zz_law_s5753b.go:41", after := #[{ on := 2, ground := Ground.data }], guard := none }) rfl (by kernel_rfl) (by kernel_rfl) (by kernel_rfl) (fun _ _ _ h => h) (yieldsIf_load_mid (by rfl) _ _ rfl _ _ rfl _ _ (fun w hSw => hSw.1) hu40 rfl hs1) (by assumption) ?_
                      try simp only [Act.put, List.setIfInBounds_toArray, List.set_cons_zero, List.set_cons_succ]
                      refine wpAnyH_take (i := 4) (oi := { dst := some 97, op := Op.load 40 (Operand.tmp 19), type := 40, pos := "zz_law_s5753b.go:41", after := #[], guard := none }) rfl (by kernel_rfl) (by kernel_rfl) (by kernel_rfl) (fun _ _ _ h => h) (yieldsIf_load_mid (by rfl) _ _ rfl _ _ rfl _ _ (fun w hSw => hSw.2) hu40 rfl hs2) (by assumption) ?_
                      try simp only [Act.put, List.setIfInBounds_toArray, List.set_cons_zero, List.set_cons_succ]
                      refine wpAnyH_take (i := 5) (oi := { dst := some 98, op := Op.binOp BinOp.eql 40 (Operand.tmp 96) (Operand.tmp 97) 40, type := 4, pos := "zz_law_s5753b.go:41", after := #[{ on := 3, ground := Ground.data }, { on := 4, ground := Ground.data }], guard := none }) (v := ?va5) rfl (by kernel_rfl) (by kernel_rfl) (by kernel_rfl) (fun _ _ _ h => h) (Or.inl ⟨by rfl, ?ya5⟩) (by assumption) ?ra5
                      case ya5 => intro w hSw; (try dsimp only at hSw); go_simp; (try with_reducible rfl)
                      try simp only [Act.put, List.setIfInBounds_toArray, List.set_cons_zero, List.set_cons_succ]
                      refine wpAnyH_done (by kernel_rfl) ?_ _
                      go_wp2
                      go_meet
                      exact ⟨rfl, (Grew.refl _).drew⟩
                    case rest =>
                      obtain ⟨rfl, hg2⟩ := hcut
                      by_cases hkq : kj = q
                      · have hd : decide (kj = q) = true := decide_eq_true hkq
                        rw [hd]
                        go_wp2
                        go_meet
                        exact ⟨j, true, rfl, rfl, HWT.out hkq, hg.trans hg2⟩
                      · have hd : decide (kj = q) = false := decide_eq_false hkq
                        rw [hd]
                        go_wp2
                        go_roundg (n - (j + 1))
                        case rel => exact ⟨j + 1, by omega, by omega, by omega, by go_num, rfl, rfl, hg.trans hg2, HNX.out hkq⟩
                        all_goals omega
                  · obtain rfl : j = n := by omega
                    go_wp2
                    go_meet
                    exact ⟨0, false, rfl, rfl, .inr ⟨rfl, rfl, HALL.out⟩, hg⟩
              case rest =>
                obtain ⟨r, ok, rfl, rfl, hW, hg3⟩ := hcut
                obtain ⟨wz, h⟩ : ∃ wz, wz = wc := ⟨_, rfl⟩
                subst h
                have hA4 := hA3.kept hg3.below
                have hb4 : Below w.heap.size w wz := hb3.trans (hg3.below.mono hb3.size)
                have hbx4 : wz.heap[bx]? = some (.cells (nameArr q) 40) := by rw [hg3.below.block bx (Array.getElem?_eq_some_iff.1 hbx).1]; exact hbx
                have hs40' : (Yba.prog.info? 40).map (·.size) = some (nameArr q).size := size40 q
                have hf := find20 ab an nb n c yb rb t k t q K D wz hA4.arch hA4.row hA4.ybx hA4.srt hn4 (by have := HKT.out; omega) hkk
                unfold nameV at hf
                have HW : Hid (Want K k n q r ok) := hW
                have HA4 : Hid (All wz an nb c kb eb ab yb rb n k t K D) := hA4
                clear hA3 hb3 hbx hA4 hg3 hW
                go_wp2_with (with_reducible refine wpList_load_row (o := { dst := some 102, op := Op.load 40 (Operand.tmp 19), type := 40, pos := "zz_law_s5753b.go:47", after := #[], guard := none }) rfl 40 (Operand.tmp 19) rfl bx ?hx40 40 _ (0, 0) _ hbx4 Yba.underlying40 rfl hs40' ?_)
                case hx40 => rfl
                go_wp2_with fail
                refine hf.mono ?_
                rintro e w5 ⟨r', ok', rfl, hW', hg5⟩
                obtain ⟨rfl, rfl⟩ := HW.out.unique hW'
                have HA5 : Hid (All w5 an nb c kb eb ab yb rb n k t K D) := HA4.out.kept hg5.below
                have hb5 : Below w.heap.size w w5 := hb4.trans (hg5.below.mono hb4.size)
                clear hf hW' hg5 hb4 hbx4
                cases ok
                all_goals
                  go_wp2
                  go_roundg (len2 - (i + 1))
                  case rel => exact ⟨i + 1, by omega, by omega, by go_num, HA5.out, hb5⟩
                  all_goals omega
            · obtain rfl : i = len2 := by omega
              have heq := equalN nb c kb kc K wr (by have := HLEN.out; omega) hKlt hAll.nms hAll.kps
              rw [← HLEN.out] at heq
              have hm1 := hAll.mf
              have hm2 := hAll.ents
              have hm3 := hAll.arch.names
              have HAL : Hid (All wr an nb c kb eb ab yb rb n k t K D) := hAll
              clear hAll hlt
              go_wp2_with fail
              refine heq.mono ?_
              rintro e w2 ⟨rfl, qd, rfl⟩
              have hA2 : All (wr.drewN qd) an nb c kb eb ab yb rb n k t K D := HAL.out.kept (((Grew.refl _).drewN qd).below)
              have hb2 : Below w.heap.size w (wr.drewN qd) := hb.trans ((((Grew.refl _).drewN qd).below).mono hb.size)
              clear hm1 hm2 hm3 heq HAL hb
              generalize wr.drewN qd = w2 at *
              have hn2 := hA2.ents
              go_wp2_with fail
              go_loopg [144] n (fun gk v144 wx => ∃ j, j ≤ n ∧ gk = n - j ∧ v144 = .int .i64 j ∧ w2 = wx)
              case atStart => exact ⟨0, by omega, rfl, rfl, rfl⟩
              case round =>
                obtain ⟨j, hj, rfl, rfl, rfl⟩ := hrel
                by_cases hlt : j < n
                · have hjz : (j : Int) < (n : Int) := by omega
                  have z0 := hA2.zero j hlt 0 _ rfl
                  have z1 := hA2.zero j hlt 1 _ rfl
                  have z2 := hA2.zero j hlt 2 _ rfl
                  have z3 := hA2.zero j hlt 3 _ rfl
                  have z4 := hA2.zero j hlt 4 _ rfl
                  rw [Nat.add_zero] at z0
                  have HA2 : Hid (All w2 an nb c kb eb ab yb rb n k t K D) := hA2
                  have hEQ := zero_equal
                  have hGD := zero_guard
                  clear hA2
                  go_wp2
                  go_roundg (n - (j + 1))
                  case rel => exact ⟨j + 1, by omega, by omega, by go_num, rfl⟩
                  all_goals omega
                · obtain rfl : j = n := by omega
                  have hp1 := hA2.parts
                  have hp2 := hA2.blds
                  have he1 := nil_eql 54 129 Yba.underlying54
                  have he2 := nil_eql 55 132 Yba.underlying55
                  clear hA2
                  go_wp2
                  go_ret
                  exact ⟨rfl, hb2⟩
end Go.Proofs.Ybulkdocu
