/-
  S5751A: Duration.appendText: WHAT IS WRITTEN, AND THE WALK.
-/
import Derived.Test.YbulkdobsDoorUnits
import Derived.Test.YbulkdobsDoorModelT0
import Derived.Deep.DeepCutAuto
import Derived.Deep.LoopGhost
namespace Go.Proofs.YbulkdobsDoor
open Go.RowKit

def uDes (i : Nat) : Int := [89, 77, 87, 68, 72, 77, 83].getD i 0
def uEx (i : Nat) : Bool := [false, false, true, true, true, true, true].getD i false
def uAt (i : Nat) : Bool := [false, false, false, false, true, true, true].getD i false
def uSz (i : Nat) : Int := [12, 1, 604800000000000, 86400000000000, 3600000000000, 60000000000, 1000000000].getD i 0
def uLim (i : Nat) : Int := [999999999, 11999999999, 142857142, 999999999, 23999999999, 1439999999999, 86399999999999].getD i 0
def uPr (i : Nat) : Bool := [true, true, false, true, true, true, true].getD i false
def uOne (i : Nat) : List Value := [.int .u8 (uDes i), .bool (uEx i), .bool (uAt i), .int .i64 (uSz i), .int .i64 (uLim i), .bool (uPr i)]
def uCells : Array Value := (uOne 0 ++ uOne 1 ++ uOne 2 ++ uOne 3 ++ uOne 4 ++ uOne 5 ++ uOne 6).toArray

/-- One unit's part of the text. -/
def piece (n b x : Int) (tm wt : Bool) : List Int := if n = 0 ∧ b = 0 then [] else (if (tm && !wt) = true then [84] else []) ++ (if n < 0 ∨ b < 0 then [45] else []) ++ dec n.natAbs ++ fracT b.natAbs ++ [x]
def wtn (n b : Int) (tm wt : Bool) : Bool := if n = 0 ∧ b = 0 then wt else (wt || tm)
def wtA (K B : Nat → Int) : Nat → Bool
  | 0 => false
  | i + 1 => wtn (K i) (B i) (uAt i) (wtA K B i)
def txA (T0 : List Int) (K B : Nat → Int) : Nat → List Int
  | 0 => T0
  | i + 1 => txA T0 K B i ++ piece (K i) (B i) (uDes i) (uAt i) (wtA K B i)

def at8 (a b c d e f g h : Int) (i : Nat) : Int := [a, b, c, d, e, f, g, h].getD i 0

/-- The parts of the duration as they come. -/
structure Parts (M D N y mo h mi s f N1 N2 : Int) : Prop where
  ey : M.tdiv 12 = y
  emo : M - y * 12 = mo
  eh : N.tdiv 3600000000000 = h
  e1 : N - h * 3600000000000 = N1
  emi : N1.tdiv 60000000000 = mi
  e2 : N1 - mi * 60000000000 = N2
  es : N2.tdiv 1000000000 = s
  ef : N2 - s * 1000000000 = f
  by_ : -1000000000 < y ∧ y < 1000000000
  bmo : -12 < mo ∧ mo < 12
  bM : -12000000000 < M ∧ M < 12000000000
  bD : -1000000000 < D ∧ D < 1000000000
  bN : -86400000000000 < N ∧ N < 86400000000000
  bh : -24 < h ∧ h < 24
  b1 : -3600000000000 < N1 ∧ N1 < 3600000000000
  bmi : -60 < mi ∧ mi < 60
  b2 : -60000000000 < N2 ∧ N2 < 60000000000
  bs : -60 < s ∧ s < 60
  bf : -1000000000 < f ∧ f < 1000000000
  sgn : (0 ≤ s ∧ 0 ≤ f) ∨ (s ≤ 0 ∧ f ≤ 0)

def D3 (w : World) (b : Nat) (x y z : Int) : Prop := w.heap[b]? = some (.cells #[.int .i64 x, .int .i64 y, .int .i64 z] 23 (0, 0))
theorem D3.c0 {w : World} {b : Nat} {x y z : Int} (h : D3 w b x y z) : w.cell? ⟨b, 0, none⟩ = some (.int .i64 x) := by rw [World.cell?, h]; rfl
theorem D3.c1 {w : World} {b : Nat} {x y z : Int} (h : D3 w b x y z) : w.cell? ⟨b, 1, none⟩ = some (.int .i64 y) := by rw [World.cell?, h]; rfl
theorem D3.c2 {w : World} {b : Nat} {x y z : Int} (h : D3 w b x y z) : w.cell? ⟨b, 2, none⟩ = some (.int .i64 z) := by rw [World.cell?, h]; rfl
theorem D3.of_block {w w' : World} {b : Nat} {x y z : Int} (h : D3 w b x y z) (e : w'.heap[b]? = w.heap[b]?) : D3 w' b x y z := by unfold D3; rw [e]; exact h
theorem D3.lt {w : World} {b : Nat} {x y z : Int} (h : D3 w b x y z) : b < w.heap.size := (Array.getElem?_eq_some_iff.1 h).1
theorem D3.alloc {w : World} {b : Nat} {x y z : Int} (h : D3 w b x y z) (o : Obj) : D3 (w.alloc o) b x y z := h.of_block (Below.heap_alloc _ _ _ h.lt)
theorem D3.kept {w w' : World} {g b : Nat} {x y z : Int} (h : D3 w b x y z) (k : Kept1 g w w') (hne : b ≠ g) : D3 w' b x y z := h.of_block (k.block b h.lt hne)
theorem D3.below {w w' : World} {b : Nat} {x y z : Int} (h : D3 w b x y z) (k : Below w.heap.size w w') : D3 w' b x y z := h.of_block (k.block b h.lt)
theorem D3.set0 {w : World} {b : Nat} {x y z : Int} (h : D3 w b x y z) (v : Int) : D3 (w.setCell ⟨b, 0, none⟩ (.int .i64 v)) b v y z := by
  have h1 := heap_setCell_same w b 0 _ 23 (.int .i64 v) h
  exact h1
theorem D3.set1 {w : World} {b : Nat} {x y z : Int} (h : D3 w b x y z) (v : Int) : D3 (w.setCell ⟨b, 1, none⟩ (.int .i64 v)) b x v z := by
  have h1 := heap_setCell_same w b 1 _ 23 (.int .i64 v) h
  exact h1
theorem D3.set2 {w : World} {b : Nat} {x y z : Int} (h : D3 w b x y z) (v : Int) : D3 (w.setCell ⟨b, 2, none⟩ (.int .i64 v)) b x y v := by
  have h1 := heap_setCell_same w b 2 _ 23 (.int .i64 v) h
  exact h1
/-- A store into a block that is newer. -/
theorem Kept1.setN {g : Nat} {a b : World} (h : Kept1 g a b) (c o : Nat) (hc : a.heap.size ≤ c) (v : Value) : Kept1 g a (b.setCell ⟨c, o, none⟩ v) :=
  h.newer ((Kept1.refl c b).set o v) hc
theorem Txt.setN {w : World} {g c o : Nat} {t : TypeId} {C : Nat} {T : List Int} {v : Value} (h : Txt w g t C T) (hc : g ≠ c) : Txt (w.setCell ⟨c, o, none⟩ v) g t C T := ((Kept1.refl c w).set o v).txt h hc
theorem D3.fr {w : World} {b : Nat} {x y z : Int} (h : D3 w b x y z) (j : Nat) : w.frozen? ⟨b, j, none⟩ = false := frozen_of_row w b j _ 23 h

theorem seven {i : Nat} (h : i < 7) : i = 0 ∨ i = 1 ∨ i = 2 ∨ i = 3 ∨ i = 4 ∨ i = 5 ∨ i = 6 := by omega
theorem idx_units (i : Nat) (hi : i < 7) (W : World) : (Instr.index 46 (.agg uCells) (.int .i64 i)).run Ybad.prog W = .ok (.agg #[.int .u8 (uDes i), .bool (uEx i), .bool (uAt i), .int .i64 (uSz i), .int .i64 (uLim i), .bool (uPr i)]) W := by
  rcases seven hi with rfl | rfl | rfl | rfl | rfl | rfl | rfl <;> kernel_rfl
theorem at8_succ (a b c d e f g h : Int) (i : Nat) (hi : i < 7) : at8 a b c d e f g h (i + 1) = at8 b c d e f g h 0 i := by
  rcases seven hi with rfl | rfl | rfl | rfl | rfl | rfl | rfl <;> rfl
theorem uPr_on {i : Nat} (hi : i < 7) (h : i ≠ 2) : uPr i = true := by
  rcases seven hi with rfl | rfl | rfl | rfl | rfl | rfl | rfl <;> first | rfl | exact absurd rfl h

theorem kb_bounds {M D N y mo h mi s f N1 N2 : Int} (PP : Parts M D N y mo h mi s f N1 N2) (i : Nat) (hi : i < 7) : (-1000000000 < at8 y mo 0 D h mi s 0 i ∧ at8 y mo 0 D h mi s 0 i < 1000000000) ∧ (-1000000000 < at8 0 0 0 0 0 0 f 0 i ∧ at8 0 0 0 0 0 0 f 0 i < 1000000000) ∧ ((0 ≤ at8 y mo 0 D h mi s 0 i ∧ 0 ≤ at8 0 0 0 0 0 0 f 0 i) ∨ (at8 y mo 0 D h mi s 0 i ≤ 0 ∧ at8 0 0 0 0 0 0 f 0 i ≤ 0)) ∧ (at8 0 0 0 0 0 0 f 0 i ≠ 0 → i = 6 ∧ (at8 y mo 0 D h mi s 0 i).natAbs < 100) := by
  have p1 := PP.by_; have p2 := PP.bmo; have p3 := PP.bD; have p4 := PP.bh; have p5 := PP.bmi; have p6 := PP.bs; have p7 := PP.bf; have p8 := PP.sgn
  rcases seven hi with rfl | rfl | rfl | rfl | rfl | rfl | rfl <;> simp only [at8, List.getD_cons_zero, List.getD_cons_succ] <;> refine ⟨by omega, by omega, by omega, fun hb => ?_⟩ <;> first | exact absurd rfl hb | exact ⟨rfl, by omega⟩ | exact ⟨trivial, by omega⟩

theorem fracAny (g n : Nat) (t : TypeId) (T : List Int) (b : Int) (w : World) (hb : -1000000000 < b ∧ b < 1000000000) (hT : Txt w g t 48 T) (hn : T.length = n) (hroom : b ≠ 0 → n + 10 ≤ 48) :
    Calls Ybad.prog 21 #[.slice (some ⟨g, 0, none⟩) n 48, .int .i64 b.natAbs] w fun e w' => e = .returned (.slice (some ⟨g, 0, none⟩) (n + (fracT b.natAbs).length) 48) ∧ Txt w' g t 48 (T ++ fracT b.natAbs) ∧ Kept1 g w w' := by
  by_cases hz : b = 0
  · subst hz
    refine (frac0 _ w).mono ?_
    rintro e w' ⟨rfl, rfl⟩
    exact ⟨rfl, by simpa [fracT] using hT, Kept1.refl g w⟩
  · refine (frac9 g n 48 t T b.natAbs w (by omega) (by omega) hT hn (hroom hz) (by omega)).mono ?_
    rintro e w' ⟨rfl, h1, h2⟩
    have e1 : fracT b.natAbs = 46 :: (d9 b.natAbs).take (cutK (d9 b.natAbs) 9) := by rw [fracT, if_neg (by omega)]
    have e2 : ((d9 b.natAbs).take (cutK (d9 b.natAbs) 9)).length = cutK (d9 b.natAbs) 9 := by rw [List.length_take, d9_length]; exact Nat.min_eq_left (cutK_le _ 9)
    rw [e1]
    exact ⟨ret_len (by rw [List.length_cons, e2]; omega), h1, h2⟩

/-- A unit's own block. -/
def U6 (w : World) (b i : Nat) : Prop := w.heap[b]? = some (.cells (uOne i).toArray 45 (0, 0))
theorem U6.cell {w : World} {b i : Nat} (h : U6 w b i) (j : Nat) : w.cell? ⟨b, j, none⟩ = (uOne i)[j]? := by
  rw [World.cell?, h]
  simp
theorem U6.lt {w : World} {b i : Nat} (h : U6 w b i) : b < w.heap.size := (Array.getElem?_eq_some_iff.1 h).1
theorem U6.of_block {w w' : World} {b i : Nat} (h : U6 w b i) (e : w'.heap[b]? = w.heap[b]?) : U6 w' b i := by unfold U6; rw [e]; exact h
theorem U6.kept {w w' : World} {g b i : Nat} (h : U6 w b i) (k : Kept1 g w w') (hne : b ≠ g) : U6 w' b i := h.of_block (k.block b h.lt hne)
theorem U6.alloc {w : World} {b i : Nat} (h : U6 w b i) (o : Obj) : U6 (w.alloc o) b i := h.of_block (Below.heap_alloc _ _ _ h.lt)
theorem D3.drewN {w : World} {b : Nat} {x y z : Int} (h : D3 w b x y z) (k : Nat) : D3 (w.drewN k) b x y z := h
theorem U6.drewN {w : World} {b i : Nat} (h : U6 w b i) (k : Nat) : U6 (w.drewN k) b i := h
theorem Txt.drewN {w : World} {g : Nat} {t : TypeId} {C : Nat} {T : List Int} (h : Txt w g t C T) (k : Nat) : Txt (w.drewN k) g t C T := h

theorem gPow : Ybad.prog.globalNamed powName = some 2 := by kernel_rfl
theorem tab_kept {g : Nat} {w w' : World} (hk : Kept1 g w w') (hg : 2 < g) (h : Lib.TabIs Ybad.prog w powName .u64 Lib.pow10Tab) : Lib.TabIs Ybad.prog w' powName .u64 Lib.pow10Tab := by
  unfold Lib.TabIs World.var? at *
  rw [gPow] at *
  simp only [Option.bind_some] at *
  have hlt : 2 < w.heap.size := by
    by_cases hlt : 2 < w.heap.size
    · exact hlt
    · rw [Array.getElem?_eq_none (by omega)] at h
      cases h
  rw [hk.block 2 hlt (by omega)]
  exact h

set_option maxRecDepth 100000 in
set_option maxHeartbeats 4000000 in
theorem appText (g : Nat) (t : TypeId) (m dd n : Int) (lead : Bool) (w : World) (hg : g < w.heap.size) (hgp : 2 < g) (hT : Txt w g t 48 [])
    (hm : -12000000000 < m ∧ m < 12000000000) (hd : -1000000000 < dd ∧ dd < 1000000000) (hn : -86400000000000 < n ∧ n < 86400000000000)
    (hnz : ¬ (m = 0 ∧ dd = 0 ∧ n = 0)) (hlead : (m ≤ 0 ∧ dd ≤ 0 ∧ n ≤ 0) ↔ lead = true)
    (M D N y mo h mi s f N1 N2 : Int) (eM : (if lead then -m else m) = M) (eD : (if lead then -dd else dd) = D) (eN : (if lead then -n else n) = N) (P : Parts M D N y mo h mi s f N1 N2)
    (K B : Nat → Int) (eK : at8 y mo 0 D h mi s 0 = K) (eB : at8 0 0 0 0 0 0 f 0 = B) (T0 : List Int) (eT0 : leadT lead ++ [80] = T0) (hroom : ∀ i, i < 7 → (txA T0 K B (i + 1)).length ≤ 48) (hroom6 : (txA T0 K B 6).length + (if wtA K B 6 = true then 14 else 15) ≤ 48)
    (tt : TypeId) (fr : Nat × Nat) (hun : w.heap[0]? = some (.cells uCells tt fr)) (htab : Lib.TabIs Ybad.prog w powName .u64 Lib.pow10Tab) :
    Calls Ybad.prog 10 #[.agg #[.int .i64 m, .int .i64 dd, .int .i64 n], .slice (some ⟨g, 0, none⟩) 0 48] w fun e w' => e = .returned (.slice (some ⟨g, 0, none⟩) (txA T0 K B 7).length 48) ∧ Txt w' g t 48 (txA T0 K B 7) ∧ Kept1 g w w' := by
  have EM : Hid ((if lead then -m else m) = M ∧ (if lead then -dd else dd) = D ∧ (if lead then -n else n) = N) := ⟨eM, eD, eN⟩
  have HP : Hid (Parts M D N y mo h mi s f N1 N2) := P
  have HK : Hid (at8 y mo 0 D h mi s 0 = K ∧ at8 0 0 0 0 0 0 f 0 = B) := ⟨eK, eB⟩
  have HR : Hid ((∀ i, i < 7 → (txA T0 K B (i + 1)).length ≤ 48) ∧ (txA T0 K B 6).length + (if wtA K B 6 = true then 14 else 15) ≤ 48) := ⟨hroom, hroom6⟩
  have HT0 : Hid (leadT lead ++ [80] = T0) := eT0
  clear eT0
  clear eM eD eN P eK eB hroom hroom6
  have hg0 : 0 < g := by omega
  have HNZ : Hid (¬ (m = 0 ∧ dd = 0 ∧ n = 0)) := hnz
  have HL : Hid ((m ≤ 0 ∧ dd ≤ 0 ∧ n ≤ 0) ↔ lead = true) := hlead
  clear hnz hlead
  go_enter Ybad.func10, Ybad.ntmps10
  go_upto_region 1 with fail
  go_cut [14] (fun c wx => c = .bool false ∧ (w.alloc (.cells #[.int .i64 m, .int .i64 dd, .int .i64 n] 23)) = wx)
  case first =>
    have hz := HNZ.out
    by_cases h1 : m = 0
    · have b1 : (m == 0) = true := by simp [h1]
      by_cases h2 : dd = 0
      · have b2 : (dd == 0) = true := by simp [h2]
        have b3 : (n == 0) = false := by
          simp; intro h3; exact hz ⟨h1, h2, h3⟩
        clear h2 h1 hz
        go_wp2
        go_meet
        exact ⟨rfl, rfl⟩
      · have b2 : (dd == 0) = false := by simp [h2]
        clear h2 h1 hz
        go_wp2
        go_meet
        exact ⟨rfl, rfl⟩
    · have b1 : (m == 0) = false := by simp [h1]
      clear h1 hz
      go_wp2
      go_meet
      exact ⟨rfl, rfl⟩
  case rest =>
    obtain ⟨rfl, rfl⟩ := hcut
    clear HNZ
    generalize hw0 : w.alloc (.cells #[.int .i64 m, .int .i64 dd, .int .i64 n] 23) = w0 at *
    have hD0 : D3 w0 w.heap.size m dd n := by rw [← hw0]; exact heap_alloc_new w _
    have hT0 : Txt w0 g t 48 [] := by rw [← hw0]; exact hT.alloc _
    have hK0 : Kept1 g w w0 := by rw [← hw0]; exact (Kept1.refl g w).alloc _
    have HSZ : Hid (w0.heap.size = w.heap.size + 1) := by rw [← hw0]; show _ = _; simp
    clear hw0 hT
    have c0 := hD0.c0; have c1 := hD0.c1; have c2 := hD0.c2
    go_upto_region 3 with fail
    go_cut [29] (fun c wx => c = .bool lead ∧ w0 = wx)
    case first =>
      have hl := HL.out
      by_cases h1 : m ≤ 0
      · by_cases h2 : dd ≤ 0
        · by_cases h3 : n ≤ 0
          · have HF : Hid (lead = true) := hl.1 ⟨h1, h2, h3⟩
            clear hl
            go_wp2
            go_meet
            exact ⟨by rw [HF.out], rfl⟩
          · have HF : Hid (lead = false) := by show _ = _; rcases lead with _ | _; rfl; exact absurd (hl.2 rfl).2.2 h3
            clear hl
            go_wp2
            go_meet
            exact ⟨by rw [HF.out], rfl⟩
        · have HF : Hid (lead = false) := by show _ = _; rcases lead with _ | _; rfl; exact absurd (hl.2 rfl).2.1 h2
          clear hl
          go_wp2
          go_meet
          exact ⟨by rw [HF.out], rfl⟩
      · have HF : Hid (lead = false) := by show _ = _; rcases lead with _ | _; rfl; exact absurd (hl.2 rfl).1 h1
        clear hl
        go_wp2
        go_meet
        exact ⟨by rw [HF.out], rfl⟩
    case rest =>
      obtain ⟨rfl, rfl⟩ := hcut
      go_upto_if 29 with fail
      go_cut [1] (fun v wx => v = .slice (some ⟨g, 0, none⟩) (leadT lead).length 48 ∧ D3 wx w.heap.size (if lead then -m else m) (if lead then -dd else dd) (if lead then -n else n) ∧ Txt wx g t 48 (leadT lead) ∧ Kept1 g w wx ∧ w.heap.size < wx.heap.size)
      case first =>
        rcases lead with _ | _
        · go_wp2
          go_meet
          exact ⟨rfl, hD0, hT0, hK0, by have := HSZ.out; omega⟩
        · go_wp2_with (at_builtin; refine wpList_append_txt rfl _ _ rfl g 0 48 t [] [45] rfl (hT0.alloc _) rfl w0.heap.size 0 1 1 rfl rfl (new_one w0 5 _) (by omega) ?_)
          intro w1 hr1 hk1
          have hD1 : D3 w1 w.heap.size m dd n := (hD0.alloc _).kept hk1 (by omega)
          have hK1 : Kept1 g w w1 := (hK0.alloc _).trans hk1
          have e0 := hD1.c0; have e1 := hD1.c1; have e2 := hD1.c2
          clear hk1 c0 c1 c2
          go_wp2_with fail
          refine (negated_any m dd n _ hm hd hn).mono ?_
          rintro e w2 ⟨rfl, hb2⟩
          have hD2 : D3 w2 w.heap.size m dd n := hD1.below hb2
          have hT2 : Txt w2 g t 48 [45] := hr1.below hb2
          have hK2 : Kept1 g w w2 := hK1.trans (Kept1.of_below g hb2)
          have e0 := hD2.c0; have e1 := hD2.c1; have e2 := hD2.c2
          have f0 := hD2.fr 0; have f1 := hD2.fr 1; have f2 := hD2.fr 2
          clear hb2 hD1 hr1 hK1
          go_wp2
          go_meet
          exact ⟨rfl, ((hD2.set0 (-m)).set1 (-dd)).set2 (-n), ((hT2.setN (by omega)).setN (by omega)).setN (by omega), ((hK2.setN _ _ (by omega) _).setN _ _ (by omega) _).setN _ _ (by omega) _, by have := hD2.lt; simp [World.setCell]; omega⟩
      case rest =>
        obtain ⟨rfl, hD1, hT1, hK1, hs1⟩ := hcut
        rw [EM.out.1, EM.out.2.1, EM.out.2.2] at hD1
        have hl1 : (leadT lead).length ≤ 1 := by cases lead <;> simp [leadT]
        have HLL : Hid ((leadT lead).length ≤ 1) := hl1
        clear hl1 hT0 hK0 hD0 c0 c1 c2
        go_wp2_with (at_builtin; refine wpList_append_txt rfl _ _ rfl g _ 48 t (leadT lead) [80] rfl (hT1.alloc _) rfl wc.heap.size 0 1 1 rfl rfl (new_one wc 5 _) (by have := HLL.out; omega) ?_)
        intro w1 hr1 hk1
        have hD2 : D3 w1 w.heap.size M D N := (hD1.alloc _).kept hk1 (by omega)
        have hK2 : Kept1 g w w1 := (hK1.alloc _).trans hk1
        have hs2 : w.heap.size < w1.heap.size := hD2.lt
        have hu1 : w1.heap[0]? = some (.cells uCells tt fr) := (hK2.block 0 (by omega) (by omega)).trans hun
        have hsz : (Ybad.prog.info? 46).map (·.size) = some uCells.size := by kernel_rfl
        clear hk1 hD1 hK1 hT1 hs1
        rw [HT0.out] at hr1
        have HTL : Hid ((leadT lead).length + 1 = T0.length) := by rw [← HT0.out]; show _ = _; simp
        generalize huc : uCells = uc at *
        have HUC : Hid (uCells = uc) := huc
        clear huc
        go_wp2_with (refine wpList_load_row rfl 46 _ rfl 0 rfl tt _ fr _ hu1 Ybad.underlying46 rfl hsz ?_)
        go_loopg [1, 5, 39] 7 (fun gk v1 v5 v39 wx => ∃ i : Nat, i ≤ 7 ∧ gk = 7 - i ∧ v39 = .int .i64 i ∧ v5 = .bool (wtA K B i) ∧ v1 = .slice (some ⟨g, 0, none⟩) (txA T0 K B i).length 48 ∧ D3 wx w.heap.size (at8 M mo 0 0 0 0 0 0 i) (at8 D D D D 0 0 0 0 i) (at8 N N N N N N1 N2 0 i) ∧ Txt wx g t 48 (txA T0 K B i) ∧ Kept1 g w wx)
        case atStart => exact ⟨0, by omega, rfl, rfl, rfl, by rw [HTL.out]; rfl, hD2, hr1, hK2⟩
        case round =>
          obtain ⟨i, hi, rfl, rfl, rfl, rfl, hD, hT, hK⟩ := hrel
          clear hu1 hr1 hD2 hK2 hs2
          by_cases hi7 : i = 7
          · subst hi7
            go_wp2
            go_ret
            exact ⟨rfl, hT, hK⟩
          · have hi6 : i < 7 := by omega
            have hiz : (i : Int) < 7 := by omega
            clear hi7 hi
            have hix : ∀ W, (Instr.index 46 (.agg uc) (.int .i64 i)).run Ybad.prog W = .ok (.agg #[.int .u8 (uDes i), .bool (uEx i), .bool (uAt i), .int .i64 (uSz i), .int .i64 (uLim i), .bool (uPr i)]) W := by
              rw [← HUC.out]
              exact idx_units i hi6
            go_upto_region 10 with fail
            go_cut [6, 7] (fun a b wx => a = .int .i64 i ∧ b = .pointer (some ⟨wr.heap.size, 0, none⟩) ∧ wr.alloc (.cells #[.int .u8 (uDes i), .bool (uEx i), .bool (uAt i), .int .i64 (uSz i), .int .i64 (uLim i), .bool (uPr i)] 45) = wx)
            case first =>
              go_wp2
              go_meet
              exact ⟨rfl, rfl, rfl⟩
            case rest =>
              obtain ⟨rfl, rfl, rfl⟩ := hcut
              generalize hwa : wr.alloc (.cells #[.int .u8 (uDes i), .bool (uEx i), .bool (uAt i), .int .i64 (uSz i), .int .i64 (uLim i), .bool (uPr i)] 45) = wa at *
              have hU : U6 wa wr.heap.size i := by rw [← hwa]; exact heap_alloc_new wr _
              have hDa : D3 wa w.heap.size (at8 M mo 0 0 0 0 0 0 i) (at8 D D D D 0 0 0 0 i) (at8 N N N N N N1 N2 0 i) := by rw [← hwa]; exact hD.alloc _
              have hTa : Txt wa g t 48 (txA T0 K B i) := by rw [← hwa]; exact hT.alloc _
              have hKa : Kept1 g w wa := by rw [← hwa]; exact hK.alloc _
              have hdb : w.heap.size < wr.heap.size := hD.lt
              clear hwa hix hD hT hK
              generalize wr.heap.size = ub at *
              have f0 := hDa.fr 0; have f1 := hDa.fr 1; have f2 := hDa.fr 2
              have hne0 : ¬ ub = w.heap.size := by omega
              by_cases hp : i = 2
              · subst hp
                have u5 : wa.cell? ⟨ub, 5, none⟩ = some (.bool false) := hU.cell 5
                clear f0 f1 f2
                have HTX : Hid (txA T0 K B 3 = txA T0 K B 2 ∧ wtA K B 3 = wtA K B 2) := by
                  obtain ⟨rfl, rfl⟩ := HK.out
                  exact ⟨List.append_nil _, rfl⟩
                go_wp2
                go_roundg 4
                case measure => omega
                case rel => exact ⟨3, by omega, rfl, rfl, by rw [HTX.out.2], by rw [HTX.out.1], hDa, by rw [HTX.out.1]; exact hTa, hKa⟩
              · have u5 : wa.cell? ⟨ub, 5, none⟩ = some (.bool true) := by rw [← uPr_on hi6 hp]; exact hU.cell 5
                have u1 : wa.cell? ⟨ub, 1, none⟩ = some (.bool (uEx i)) := hU.cell 1
                go_upto_if 47 with fail
                go_cut [8, 9, 10] (fun a b c wx => a = .int .i64 (K i) ∧ D3 wx w.heap.size (at8 mo 0 0 0 0 0 0 0 i) (at8 D D D 0 0 0 0 0 i) (at8 N N N N N1 N2 f 0 i) ∧ U6 wx ub i ∧ Txt wx g t 48 (txA T0 K B i) ∧ Kept1 g w wx)
                case first =>
                  have PP := HP.out
                  have q := seven hi6
                  rcases q with rfl | rfl | rfl | rfl | rfl | rfl | rfl
                  · clear u1
                    have x1 : uEx 0 = false := rfl
                    have u3 : wa.cell? ⟨ub, 3, none⟩ = some (.int .i64 12) := hU.cell 3
                    have d0 : wa.cell? ⟨w.heap.size, 0, none⟩ = some (.int .i64 (M)) := hDa.c0
                    have d1 : wa.cell? ⟨w.heap.size, 1, none⟩ = some (.int .i64 (D)) := hDa.c1
                    have d2 : wa.cell? ⟨w.heap.size, 2, none⟩ = some (.int .i64 (N)) := hDa.c2
                    have hDx : D3 wa w.heap.size (M) (D) (N) := hDa
                    have HKI : Hid (K 0 = y) := by rw [← HK.out.1]; rfl
                    have e1 := PP.ey
                    have E2 : Hid (M - y * 12 = mo) := PP.emo
                    have bM := PP.bM
                    have by_ := PP.by_
                    clear PP
                    go_wp2
                    go_meet
                    exact ⟨by rw [HKI.out], by rw [← E2.out]; exact hDx.set0 _, hU.of_block (Below.heap_setCell _ _ _ _ hne0), hTa.setN (by omega), hKa.setN _ _ (by omega) _⟩
                  · clear u1
                    have x1 : uEx 1 = false := rfl
                    have u3 : wa.cell? ⟨ub, 3, none⟩ = some (.int .i64 1) := hU.cell 3
                    have d0 : wa.cell? ⟨w.heap.size, 0, none⟩ = some (.int .i64 (mo)) := hDa.c0
                    have d1 : wa.cell? ⟨w.heap.size, 1, none⟩ = some (.int .i64 (D)) := hDa.c1
                    have d2 : wa.cell? ⟨w.heap.size, 2, none⟩ = some (.int .i64 (N)) := hDa.c2
                    have hDx : D3 wa w.heap.size (mo) (D) (N) := hDa
                    have HKI : Hid (K 1 = mo) := by rw [← HK.out.1]; rfl
                    have bmo := PP.bmo
                    clear PP
                    go_wp2
                    go_meet
                    exact ⟨by rw [HKI.out], by first | exact hDx.set0 _ | (have := hDx.set0 (mo - mo); rwa [Int.sub_self] at this), hU.of_block (Below.heap_setCell _ _ _ _ hne0), hTa.setN (by omega), hKa.setN _ _ (by omega) _⟩
                  · exact absurd rfl hp
                  · clear u1
                    have x1 : uEx 3 = true := rfl
                    have u3 : wa.cell? ⟨ub, 3, none⟩ = some (.int .i64 86400000000000) := hU.cell 3
                    have d0 : wa.cell? ⟨w.heap.size, 0, none⟩ = some (.int .i64 (0)) := hDa.c0
                    have d1 : wa.cell? ⟨w.heap.size, 1, none⟩ = some (.int .i64 (D)) := hDa.c1
                    have d2 : wa.cell? ⟨w.heap.size, 2, none⟩ = some (.int .i64 (N)) := hDa.c2
                    have hDx : D3 wa w.heap.size (0) (D) (N) := hDa
                    have HKI : Hid (K 3 = D) := by rw [← HK.out.1]; rfl
                    have hc1 := fun W => units_day D N W PP.bD
                    have hc2 := fun W => exact_day D W PP.bD
                    have bD := PP.bD
                    have bN := PP.bN
                    clear PP
                    go_wp2_with fail
                    refine (hc1 _).mono ?_
                    rintro e w' ⟨rfl, rfl⟩
                    go_wp2_with fail
                    refine (hc2 _).mono ?_
                    rintro e w' ⟨rfl, rfl⟩
                    go_wp2
                    go_meet
                    exact ⟨by rw [HKI.out], (hDx.set1 0).set2 N, (hU.of_block (Below.heap_setCell _ _ _ _ hne0)).of_block (Below.heap_setCell _ _ _ _ hne0), (hTa.setN (by omega)).setN (by omega), (hKa.setN _ _ (by omega) _).setN _ _ (by omega) _⟩
                  · clear u1
                    have x1 : uEx 4 = true := rfl
                    have u3 : wa.cell? ⟨ub, 3, none⟩ = some (.int .i64 3600000000000) := hU.cell 3
                    have d0 : wa.cell? ⟨w.heap.size, 0, none⟩ = some (.int .i64 (0)) := hDa.c0
                    have d1 : wa.cell? ⟨w.heap.size, 1, none⟩ = some (.int .i64 (0)) := hDa.c1
                    have d2 : wa.cell? ⟨w.heap.size, 2, none⟩ = some (.int .i64 (N)) := hDa.c2
                    have hDx : D3 wa w.heap.size (0) (0) (N) := hDa
                    have HKI : Hid (K 4 = h) := by rw [← HK.out.1]; rfl
                    have hc1 : ∀ W, Calls Ybad.prog 18 #[.int .i64 0, .int .i64 N, .int .i64 3600000000000] W fun e w' => e = .returned (.int .i64 h) ∧ W = w' := by
                      intro W
                      have hh := units_sub N 3600000000000 24 W (.inl ⟨rfl, rfl⟩) (by have := PP.bN; omega)
                      rw [PP.eh] at hh
                      exact hh
                    have hc2 := fun W => exact_sub h 3600000000000 24 W (.inl ⟨rfl, rfl⟩) (by have := PP.bh; omega)
                    have E2 : Hid (N - h * 3600000000000 = N1) := PP.e1
                    have b1 := PP.bN
                    have b2 := PP.bh
                    clear PP
                    go_wp2_with fail
                    refine (hc1 _).mono ?_
                    rintro e w' ⟨rfl, rfl⟩
                    go_wp2_with fail
                    refine (hc2 _).mono ?_
                    rintro e w' ⟨rfl, k, rfl⟩
                    go_wp2
                    go_meet
                    refine ⟨by rw [HKI.out], ?_, ((hU.drewN k).of_block (Below.heap_setCell _ _ _ _ hne0)).of_block (Below.heap_setCell _ _ _ _ hne0), ((hTa.drewN k).setN (by omega)).setN (by omega), ((hKa.drewN k).setN _ _ (by omega) _).setN _ _ (by omega) _⟩
                    show D3 _ w.heap.size 0 0 N1
                    rw [← E2.out]
                    exact ((hDx.drewN k).set1 0).set2 _
                  · clear u1
                    have x1 : uEx 5 = true := rfl
                    have u3 : wa.cell? ⟨ub, 3, none⟩ = some (.int .i64 60000000000) := hU.cell 3
                    have d0 : wa.cell? ⟨w.heap.size, 0, none⟩ = some (.int .i64 (0)) := hDa.c0
                    have d1 : wa.cell? ⟨w.heap.size, 1, none⟩ = some (.int .i64 (0)) := hDa.c1
                    have d2 : wa.cell? ⟨w.heap.size, 2, none⟩ = some (.int .i64 (N1)) := hDa.c2
                    have hDx : D3 wa w.heap.size (0) (0) (N1) := hDa
                    have HKI : Hid (K 5 = mi) := by rw [← HK.out.1]; rfl
                    have hc1 : ∀ W, Calls Ybad.prog 18 #[.int .i64 0, .int .i64 N1, .int .i64 60000000000] W fun e w' => e = .returned (.int .i64 mi) ∧ W = w' := by
                      intro W
                      have hh := units_sub N1 60000000000 1440 W (.inr (.inl ⟨rfl, rfl⟩)) (by have := PP.b1; omega)
                      rw [PP.emi] at hh
                      exact hh
                    have hc2 := fun W => exact_sub mi 60000000000 1440 W (.inr (.inl ⟨rfl, rfl⟩)) (by have := PP.bmi; omega)
                    have E2 : Hid (N1 - mi * 60000000000 = N2) := PP.e2
                    have b1 := PP.b1
                    have b2 := PP.bmi
                    clear PP
                    go_wp2_with fail
                    refine (hc1 _).mono ?_
                    rintro e w' ⟨rfl, rfl⟩
                    go_wp2_with fail
                    refine (hc2 _).mono ?_
                    rintro e w' ⟨rfl, k, rfl⟩
                    go_wp2
                    go_meet
                    refine ⟨by rw [HKI.out], ?_, ((hU.drewN k).of_block (Below.heap_setCell _ _ _ _ hne0)).of_block (Below.heap_setCell _ _ _ _ hne0), ((hTa.drewN k).setN (by omega)).setN (by omega), ((hKa.drewN k).setN _ _ (by omega) _).setN _ _ (by omega) _⟩
                    show D3 _ w.heap.size 0 0 N2
                    rw [← E2.out]
                    exact ((hDx.drewN k).set1 0).set2 _
                  · clear u1
                    have x1 : uEx 6 = true := rfl
                    have u3 : wa.cell? ⟨ub, 3, none⟩ = some (.int .i64 1000000000) := hU.cell 3
                    have d0 : wa.cell? ⟨w.heap.size, 0, none⟩ = some (.int .i64 (0)) := hDa.c0
                    have d1 : wa.cell? ⟨w.heap.size, 1, none⟩ = some (.int .i64 (0)) := hDa.c1
                    have d2 : wa.cell? ⟨w.heap.size, 2, none⟩ = some (.int .i64 (N2)) := hDa.c2
                    have hDx : D3 wa w.heap.size (0) (0) (N2) := hDa
                    have HKI : Hid (K 6 = s) := by rw [← HK.out.1]; rfl
                    have hc1 : ∀ W, Calls Ybad.prog 18 #[.int .i64 0, .int .i64 N2, .int .i64 1000000000] W fun e w' => e = .returned (.int .i64 s) ∧ W = w' := by
                      intro W
                      have hh := units_sub N2 1000000000 86400 W (.inr (.inr ⟨rfl, rfl⟩)) (by have := PP.b2; omega)
                      rw [PP.es] at hh
                      exact hh
                    have hc2 := fun W => exact_sub s 1000000000 86400 W (.inr (.inr ⟨rfl, rfl⟩)) (by have := PP.bs; omega)
                    have E2 : Hid (N2 - s * 1000000000 = f) := PP.ef
                    have b1 := PP.b2
                    have b2 := PP.bs
                    clear PP
                    go_wp2_with fail
                    refine (hc1 _).mono ?_
                    rintro e w' ⟨rfl, rfl⟩
                    go_wp2_with fail
                    refine (hc2 _).mono ?_
                    rintro e w' ⟨rfl, k, rfl⟩
                    go_wp2
                    go_meet
                    refine ⟨by rw [HKI.out], ?_, ((hU.drewN k).of_block (Below.heap_setCell _ _ _ _ hne0)).of_block (Below.heap_setCell _ _ _ _ hne0), ((hTa.drewN k).setN (by omega)).setN (by omega), ((hKa.drewN k).setN _ _ (by omega) _).setN _ _ (by omega) _⟩
                    show D3 _ w.heap.size 0 0 f
                    rw [← E2.out]
                    exact ((hDx.drewN k).set1 0).set2 _
                case rest =>
                  obtain ⟨rfl, hD2, hU2, hT2, hK2⟩ := hcut
                  clear hDa hU hTa hKa f0 f1 f2 u1 u5
                  have f2 := hD2.fr 2
                  have d2 := hD2.c2
                  go_upto_if 86 with fail
                  go_cut [11] (fun a wx => a = .int .i64 (B i) ∧ D3 wx w.heap.size (at8 mo 0 0 0 0 0 0 0 i) (at8 D D D 0 0 0 0 0 i) (at8 N N N N N1 N2 0 0 i) ∧ U6 wx ub i ∧ Txt wx g t 48 (txA T0 K B i) ∧ Kept1 g w wx)
                  case first =>
                    by_cases h6 : i = 6
                    · subst h6
                      have d2' : wc.cell? ⟨w.heap.size, 2, none⟩ = some (.int .i64 f) := d2
                      clear d2
                      have HBI : Hid (B 6 = f) := by rw [← HK.out.2]; rfl
                      go_wp2
                      go_meet
                      exact ⟨by rw [HBI.out], hD2.set2 0, hU2.of_block (Below.heap_setCell _ _ _ _ hne0), hT2.setN (by omega), hK2.setN _ _ (by omega) _⟩
                    · have b6 : ((i : Int) == 6) = false := by simp; omega
                      have HBI : Hid (B i = 0 ∧ at8 N N N N N1 N2 f 0 i = at8 N N N N N1 N2 0 0 i) := by
                        rw [← HK.out.2]
                        rcases seven hi6 with rfl | rfl | rfl | rfl | rfl | rfl | rfl <;> first | exact ⟨rfl, rfl⟩ | exact absurd rfl h6
                      clear d2 h6
                      go_wp2
                      go_meet
                      exact ⟨by rw [HBI.out.1], by rw [← HBI.out.2]; exact hD2, hU2, hT2, hK2⟩
                  case rest =>
                    obtain ⟨rfl, hD3, hU3, hT3, hK3⟩ := hcut
                    clear hD2 hU2 hT2 hK2 f2 d2
                    have hroom := HR.out.1 i hi6
                    have hroom6 := HR.out.2
                    have PP := HP.out
                    obtain ⟨hk1, hb1, hsg, hb6⟩ : (-1000000000 < K i ∧ K i < 1000000000) ∧ (-1000000000 < B i ∧ B i < 1000000000) ∧ ((0 ≤ K i ∧ 0 ≤ B i) ∨ (K i ≤ 0 ∧ B i ≤ 0)) ∧ (B i ≠ 0 → i = 6 ∧ (K i).natAbs < 100) := by
                      rw [← HK.out.1, ← HK.out.2]
                      exact kb_bounds PP i hi6
                    clear PP
                    have hRx : (B i ≠ 0 → (txA T0 K B i).length + (if (uAt i && !wtA K B i) = true then 1 else 0) + 14 ≤ 48) := by
                      intro hb
                      obtain ⟨rfl, _⟩ := hb6 hb
                      have : uAt 6 = true := rfl
                      rw [this, Bool.true_and]
                      revert hroom6
                      cases wtA K B 6 <;> simp <;> omega
                    have hRk : B i ≠ 0 → Lib.nDigits (K i).natAbs ≤ 2 := by
                      intro hb
                      have h100 := (hb6 hb).2
                      by_cases h10 : (K i).natAbs < 10
                      · rw [Lib.nDigits_small h10]; omega
                      · rw [Lib.nDigits_big h10, Lib.nDigits_small (by omega)]; omega
                    have hDn := hD3
                    rw [← at8_succ M mo 0 0 0 0 0 0 i hi6, ← at8_succ D D D D 0 0 0 0 i hi6, ← at8_succ N N N N N N1 N2 0 i hi6] at hDn
                    have HTX : Hid (txA T0 K B (i + 1) = txA T0 K B i ++ piece (K i) (B i) (uDes i) (uAt i) (wtA K B i) ∧ wtA K B (i + 1) = wtn (K i) (B i) (uAt i) (wtA K B i)) := ⟨rfl, rfl⟩
                    rw [HTX.out.1] at hroom
                    have u2 : wc.cell? ⟨ub, 2, none⟩ = some (.bool (uAt i)) := hU3.cell 2
                    have HRX : Hid ((B i ≠ 0 → (txA T0 K B i).length + (if (uAt i && !wtA K B i) = true then 1 else 0) + 14 ≤ 48) ∧ (B i ≠ 0 → Lib.nDigits (K i).natAbs ≤ 2) ∧ (txA T0 K B i ++ piece (K i) (B i) (uDes i) (uAt i) (wtA K B i)).length ≤ 48) := ⟨hRx, hRk, hroom⟩
                    clear hRx hRk hroom hroom6 hb6 hD3
                    obtain ⟨wz, hwz⟩ : ∃ wz, wz = wc := ⟨_, rfl⟩
                    subst hwz
                    generalize K i = kn at *
                    generalize B i = bn at *
                    generalize txA T0 K B i = Ti at *
                    generalize wtA K B i = wt at *
                    by_cases hz : kn = 0 ∧ bn = 0
                    · have z1 : (kn == 0) = true := by simp [hz.1]
                      have z2 : (bn == 0) = true := by simp [hz.2]
                      have HPE : Hid (txA T0 K B (i + 1) = Ti ∧ wtA K B (i + 1) = wt) := by
                        refine ⟨?_, ?_⟩
                        · rw [HTX.out.1, piece, if_pos hz, List.append_nil]
                        · rw [HTX.out.2, wtn, if_pos hz]
                      clear hz
                      go_wp2
                      go_roundg (7 - (i + 1))
                      case measure => omega
                      case rel => exact ⟨i + 1, by omega, rfl, by go_num, by rw [HPE.out.2], by rw [HPE.out.1], hDn, by rw [HPE.out.1]; exact hT3, hK3⟩
                    · have HPE : Hid (txA T0 K B (i + 1) = Ti ++ (if (uAt i && !wt) = true then [84] else []) ++ (if kn < 0 ∨ bn < 0 then [45] else []) ++ dec kn.natAbs ++ fracT bn.natAbs ++ [uDes i] ∧ wtA K B (i + 1) = (wt || uAt i)) := by
                        refine ⟨?_, ?_⟩
                        · rw [HTX.out.1, piece, if_neg hz]
                          simp
                        · rw [HTX.out.2, wtn, if_neg hz]
                      have HRM : Hid ((bn ≠ 0 → Ti.length + (if (uAt i && !wt) = true then 1 else 0) + 14 ≤ 48) ∧ (bn ≠ 0 → Lib.nDigits kn.natAbs ≤ 2) ∧ Ti.length + (if (uAt i && !wt) = true then [84] else ([] : List Int)).length + (if kn < 0 ∨ bn < 0 then [45] else ([] : List Int)).length + Lib.nDigits kn.natAbs + (fracT bn.natAbs).length + 1 ≤ 48) := by
                        obtain ⟨r1, r2, r3⟩ := HRX.out
                        refine ⟨r1, r2, ?_⟩
                        rw [piece, if_neg hz] at r3
                        simp only [List.length_append, List.length_singleton, dec_length] at r3
                        omega
                      clear HTX HRX
                      go_upto_region 22 with fail
                      go_cut [95] (fun c wx => c = .bool false ∧ wz = wx)
                      case first =>
                        by_cases h1 : kn = 0
                        · have z1 : (kn == 0) = true := by simp [h1]
                          have z2 : (bn == 0) = false := by simp; intro h2; exact hz ⟨h1, h2⟩
                          clear h1 hz
                          go_wp2
                          go_meet
                          exact ⟨rfl, rfl⟩
                        · have z1 : (kn == 0) = false := by simp [h1]
                          clear h1 hz
                          go_wp2
                          go_meet
                          exact ⟨rfl, rfl⟩
                      case rest =>
                        obtain ⟨rfl, rfl⟩ := hcut
                        clear hz
                        have hb : ∃ b : Bool, b = (uAt i && !wt) := ⟨_, rfl⟩
                        obtain ⟨tb, htb⟩ := hb
                        have HTB : Hid (tb = (uAt i && !wt)) := htb
                        have HPE' : Hid (txA T0 K B (i + 1) = Ti ++ (if tb = true then [84] else []) ++ (if kn < 0 ∨ bn < 0 then [45] else []) ++ dec kn.natAbs ++ fracT bn.natAbs ++ [uDes i] ∧ wtA K B (i + 1) = (wt || uAt i)) := by rw [htb]; exact HPE.out
                        have HRM' : Hid ((bn ≠ 0 → Ti.length + (if tb = true then 1 else 0) + 14 ≤ 48) ∧ (bn ≠ 0 → Lib.nDigits kn.natAbs ≤ 2) ∧ Ti.length + (if tb = true then [84] else ([] : List Int)).length + (if kn < 0 ∨ bn < 0 then [45] else ([] : List Int)).length + Lib.nDigits kn.natAbs + (fracT bn.natAbs).length + 1 ≤ 48) := by rw [htb]; exact HRM.out
                        clear htb HPE HRM
                        go_upto_region 23 with fail
                        go_cut [101] (fun c wx => c = .bool tb ∧ wz = wx)
                        case first =>
                          have HE : Hid (tb = (uAt i && !wt)) := HTB.out
                          generalize uAt i = tm at *
                          rcases tm with _ | _
                          · go_wp2
                            go_meet
                            exact ⟨by rw [HE.out]; rfl, rfl⟩
                          · rcases wt with _ | _
                            · go_wp2
                              go_meet
                              exact ⟨by rw [HE.out]; rfl, rfl⟩
                            · go_wp2
                              go_meet
                              exact ⟨by rw [HE.out]; rfl, rfl⟩
                        case rest =>
                          obtain ⟨rfl, rfl⟩ := hcut
                          clear u2
                          go_upto_if 101 with fail
                          go_cut [1, 5] (fun v1 v5 wx => v1 = .slice (some ⟨g, 0, none⟩) (Ti ++ (if tb = true then [84] else [])).length 48 ∧ v5 = .bool (wt || uAt i) ∧ D3 wx w.heap.size (at8 M mo 0 0 0 0 0 0 (i + 1)) (at8 D D D D 0 0 0 0 (i + 1)) (at8 N N N N N N1 N2 0 (i + 1)) ∧ U6 wx ub i ∧ Txt wx g t 48 (Ti ++ (if tb = true then [84] else [])) ∧ Kept1 g w wx)
                          case first =>
                            rcases tb with _ | _
                            · have HW : Hid (wt = (wt || uAt i)) := by
                                show wt = (wt || uAt i)
                                have := HTB.out
                                revert this
                                generalize uAt i = tm
                                cases wt <;> cases tm <;> decide
                              go_wp2
                              go_meet
                              exact ⟨by simp, by rw [← HW.out], hDn, hU3, by simpa using hT3, hK3⟩
                            · have HW : Hid (true = (wt || uAt i)) := by
                                show true = (wt || uAt i)
                                have := HTB.out
                                revert this
                                generalize uAt i = tm
                                cases wt <;> cases tm <;> decide
                              go_wp2_with (at_builtin; refine wpList_append_txt rfl _ _ rfl g _ 48 t Ti [84] rfl (hT3.alloc _) rfl wz.heap.size 0 1 1 rfl rfl (new_one wz 5 _) (by have := HRM'.out.2.2; simp at this; omega) ?_)
                              intro w4 hr4 hk4
                              go_wp2
                              go_meet
                              exact ⟨by simp, by rw [← HW.out], (hDn.alloc _).kept hk4 (by omega), (hU3.alloc _).kept hk4 (by omega), by simpa using hr4, (hK3.alloc _).trans hk4⟩
                          case rest =>
                            obtain ⟨rfl, rfl, hD4, hU4, hT4, hK4⟩ := hcut
                            clear hDn hU3 hT3 hK3 HTB
                            obtain ⟨wy, hwy⟩ : ∃ wy, wy = wc := ⟨_, rfl⟩
                            subst hwy
                            have hlen4 : (Ti ++ (if tb = true then [84] else ([] : List Int))).length = Ti.length + (if tb = true then [84] else ([] : List Int)).length := List.length_append
                            have HRN : Hid ((bn ≠ 0 → (Ti ++ (if tb = true then [84] else ([] : List Int))).length + 14 ≤ 48) ∧ (bn ≠ 0 → Lib.nDigits kn.natAbs ≤ 2) ∧ (Ti ++ (if tb = true then [84] else ([] : List Int))).length + (if kn < 0 ∨ bn < 0 then [45] else ([] : List Int)).length + Lib.nDigits kn.natAbs + (fracT bn.natAbs).length + 1 ≤ 48) := by
                              obtain ⟨r1, r2, r3⟩ := HRM'.out
                              refine ⟨fun hb => ?_, r2, by omega⟩
                              have := r1 hb
                              rw [hlen4]
                              revert this
                              cases tb <;> simp <;> omega
                            clear hlen4 HRM'
                            generalize Ti ++ (if tb = true then [84] else ([] : List Int)) = T4 at *
                            have hb : ∃ b : Bool, b = decide (kn < 0 ∨ bn < 0) := ⟨_, rfl⟩
                            obtain ⟨neg, hneg⟩ := hb
                            have HNEG : Hid (neg = decide (kn < 0 ∨ bn < 0)) := hneg
                            clear hneg
                            go_upto_region 26 with fail
                            go_cut [110] (fun c wx => c = .bool neg ∧ wy = wx)
                            case first =>
                              by_cases q1 : kn < 0
                              · have HF : Hid (neg = true) := by show _ = _; rw [HNEG.out]; simp [q1]
                                go_wp2
                                go_meet
                                exact ⟨by rw [HF.out], rfl⟩
                              · by_cases q2 : bn < 0
                                · have HF : Hid (neg = true) := by show _ = _; rw [HNEG.out]; simp [q2]
                                  go_wp2
                                  go_meet
                                  exact ⟨by rw [HF.out], rfl⟩
                                · have HF : Hid (neg = false) := by show _ = _; rw [HNEG.out]; simp; omega
                                  go_wp2
                                  go_meet
                                  exact ⟨by rw [HF.out], rfl⟩
                            case rest =>
                              obtain ⟨rfl, rfl⟩ := hcut
                              go_upto_if 110 with fail
                              go_cut [1, 8, 11] (fun v1 a b wx => v1 = .slice (some ⟨g, 0, none⟩) (T4 ++ (if kn < 0 ∨ bn < 0 then [45] else [])).length 48 ∧ a = .int .i64 kn.natAbs ∧ b = .int .i64 bn.natAbs ∧ D3 wx w.heap.size (at8 M mo 0 0 0 0 0 0 (i + 1)) (at8 D D D D 0 0 0 0 (i + 1)) (at8 N N N N N N1 N2 0 (i + 1)) ∧ U6 wx ub i ∧ Txt wx g t 48 (T4 ++ (if kn < 0 ∨ bn < 0 then [45] else [])) ∧ Kept1 g w wx)
                              case first =>
                                rcases neg with _ | _
                                · have hng := of_decide_eq_false HNEG.out.symm
                                  have HA : Hid ((kn.natAbs : Int) = kn ∧ (bn.natAbs : Int) = bn) := by constructor <;> omega
                                  have HF : Hid ((if kn < 0 ∨ bn < 0 then [45] else []) = ([] : List Int)) := by show _ = _; rw [if_neg hng]
                                  clear hng
                                  go_wp2
                                  go_meet
                                  exact ⟨by rw [HF.out, List.append_nil], by rw [HA.out.1], by rw [HA.out.2], hD4, hU4, by rw [HF.out, List.append_nil]; exact hT4, hK4⟩
                                · have hng := of_decide_eq_true HNEG.out.symm
                                  have HA : Hid ((kn.natAbs : Int) = -kn ∧ (bn.natAbs : Int) = -bn) := by constructor <;> omega
                                  have HF : Hid ((if kn < 0 ∨ bn < 0 then [45] else []) = ([45] : List Int)) := by show _ = _; rw [if_pos hng]
                                  clear hng
                                  go_wp2_with (at_builtin; refine wpList_append_txt rfl _ _ rfl g _ 48 t T4 [45] rfl (hT4.alloc _) rfl wy.heap.size 0 1 1 rfl rfl (new_one wy 5 _) (by have := HRN.out.2.2; rw [HF.out] at this; simp at this; omega) ?_)
                                  intro w4 hr4 hk4
                                  go_wp2
                                  go_meet
                                  exact ⟨by rw [HF.out]; simp, by rw [HA.out.1], by rw [HA.out.2], (hD4.alloc _).kept hk4 (by omega), (hU4.alloc _).kept hk4 (by omega), by rw [HF.out]; exact hr4, (hK4.alloc _).trans hk4⟩
                              case rest =>
                                obtain ⟨rfl, rfl, rfl, hD5, hU5, hT5, hK5⟩ := hcut
                                clear hD4 hU4 hT4 hK4 HNEG
                                obtain ⟨wv, hwv⟩ : ∃ wv, wv = wc := ⟨_, rfl⟩
                                subst hwv
                                have HRO : Hid ((bn ≠ 0 → (T4 ++ (if kn < 0 ∨ bn < 0 then [45] else ([] : List Int))).length + 13 ≤ 48) ∧ (bn ≠ 0 → Lib.nDigits kn.natAbs ≤ 2) ∧ (T4 ++ (if kn < 0 ∨ bn < 0 then [45] else ([] : List Int))).length + Lib.nDigits kn.natAbs + (fracT bn.natAbs).length + 1 ≤ 48) := by
                                  obtain ⟨r1, r2, r3⟩ := HRN.out
                                  rw [List.length_append]
                                  refine ⟨fun hb => ?_, r2, by omega⟩
                                  have := r1 hb
                                  split <;> simp <;> omega
                                clear HRN
                                generalize T4 ++ (if kn < 0 ∨ bn < 0 then [45] else ([] : List Int)) = T5 at *
                                have htv := tab_kept hK5 hgp htab
                                have hc1 := appInt g T5.length 48 t T5 kn.natAbs wv (by omega) hT5 rfl (by have := HRO.out.2.2; omega) htv
                                go_wp2_with fail
                                refine hc1.mono ?_
                                rintro e w6 ⟨rfl, hT6, hk6⟩
                                have hc2 := fracAny g (T5.length + Lib.nDigits kn.natAbs) t (T5 ++ dec kn.natAbs) bn w6 hb1 hT6 (by rw [List.length_append, dec_length]) (fun hb => by have := HRO.out.1 hb; have := HRO.out.2.1 hb; omega)
                                have hD6 := hD5.kept hk6 (by omega)
                                have hU6 := hU5.kept hk6 (by omega)
                                have hK6 := hK5.trans hk6
                                clear hc1 hk6 hD5 hU5 hK5 hT6 hT5
                                go_wp2_with fail
                                refine hc2.mono ?_
                                rintro e w7 ⟨rfl, hT7, hk7⟩
                                have hD7 := hD6.kept hk7 (by omega)
                                have hU7 := hU6.kept hk7 (by omega)
                                have hK7 := hK6.trans hk7
                                have u0 : w7.cell? ⟨ub, 0, none⟩ = some (.int .u8 (uDes i)) := hU7.cell 0
                                have HLN : Hid ((T5 ++ dec kn.natAbs ++ fracT bn.natAbs).length = T5.length + Lib.nDigits kn.natAbs + (fracT bn.natAbs).length) := by show _ = _; rw [List.length_append, List.length_append, dec_length]
                                clear hc2 hk7 hD6 hU6 hK6
                                go_wp2_with (at_builtin; refine wpList_append_txt rfl _ _ rfl g _ 48 t _ [uDes i] rfl (hT7.alloc _) HLN.out w7.heap.size 0 1 1 rfl rfl (new_one w7 5 _) (by have := HRO.out.2.2; omega) ?_)
                                intro w8 hr8 hk8
                                go_wp2
                                go_roundg (7 - (i + 1))
                                case measure => omega
                                case rel => exact ⟨i + 1, by omega, rfl, by go_num, by rw [HPE'.out.2], by rw [HPE'.out.1, List.length_append, HLN.out]; rfl, (hD7.alloc _).kept hk8 (by omega), by rw [HPE'.out.1]; simpa using hr8, (hK7.alloc _).trans hk8⟩
end Go.Proofs.YbulkdobsDoor
