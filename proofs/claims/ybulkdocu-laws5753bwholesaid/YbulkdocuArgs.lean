/-
  S5753A: THE TWO SLICES THAT COME IN, AND WHAT THE LAW DOES WITH THEM.
-/
import Derived.Test.YbulkdocuPath
import Derived.Test.YbulkdocuShelf
namespace Go.Proofs.Ybulkdocu
open Go.RowKit
set_option linter.unusedVariables false

theorem add_plain (b off i : Nat) : (⟨b, off, none⟩ : Addr).add i = ⟨b, off + i, none⟩ := by unfold Addr.add; split <;> simp_all

/-- A []byte that came in: 'bs' its bytes. -/
structure Bts (w : World) (a : Option Addr) (len cap : Nat) (bs : List Int) : Prop where
  eq : bs.length = len
  byte : ∀ x ∈ bs, 0 ≤ x ∧ x < 256
  at' : (a = none ∧ len = 0 ∧ cap = 0) ∨ ∃ x, a = some x ∧ ∀ i, i < len → w.cell? (x.add i) = some (.int .u8 (bs.getD i 0))

/-- A []string that came in: 'fs' its strings. -/
structure Sts (w : World) (a : Option Addr) (len cap : Nat) (fs : List ByteArray) : Prop where
  eq : fs.length = len
  size : ∀ s ∈ fs, s.size ≤ 140737488351232
  at' : (a = none ∧ len = 0 ∧ cap = 0) ∨ ∃ x, a = some x ∧ ∀ i, i < len → w.cell? (x.add i) = some (.string (fs.getD i ByteArray.empty))

theorem Bts.kept {w w' : World} {B : Nat} {a : Option Addr} {len cap : Nat} {bs : List Int} (h : Bts w a len cap bs) (hB : w.heap.size ≤ B) (hb : Below B w w') : Bts w' a len cap bs := by
  refine ⟨h.eq, h.byte, ?_⟩
  rcases h.at' with h0 | ⟨x, rfl, hc⟩
  · exact .inl h0
  · refine .inr ⟨x, rfl, fun i hi => ?_⟩
    rw [hb.cell (by have := World.block_lt_of_cell? _ _ (hc i hi); omega)]
    exact hc i hi
theorem Sts.kept {w w' : World} {B : Nat} {a : Option Addr} {len cap : Nat} {fs : List ByteArray} (h : Sts w a len cap fs) (hB : w.heap.size ≤ B) (hb : Below B w w') : Sts w' a len cap fs := by
  refine ⟨h.eq, h.size, ?_⟩
  rcases h.at' with h0 | ⟨x, rfl, hc⟩
  · exact .inl h0
  · refine .inr ⟨x, rfl, fun i hi => ?_⟩
    rw [hb.cell (by have := World.block_lt_of_cell? _ _ (hc i hi); omega)]
    exact hc i hi
theorem Sts.get {w : World} {a : Option Addr} {len cap : Nat} {fs : List ByteArray} (h : Sts w a len cap fs) {i : Nat} (hi : i < len) :
    ∃ b off, a = some ⟨b, off, none⟩ ∧ b < w.heap.size ∧ (∀ j, j < len → w.cell? ⟨b, off + j, none⟩ = some (.string (fs.getD j ByteArray.empty))) := by
  rcases h.at' with ⟨_, h0, _⟩ | ⟨x, rfl, hc⟩
  · omega
  · obtain ⟨b, off, sp⟩ := x
    have hsp : sp = none := by simpa [Addr.add] using World.cell?_spot (hc 0 (by omega))
    subst hsp
    refine ⟨b, off, rfl, ?_, fun j hj => ?_⟩
    · have := World.block_lt_of_cell? _ _ (hc 0 (by omega))
      rw [add_plain] at this
      exact this
    · have := hc j hj
      rw [add_plain] at this
      exact this
theorem Sts.at_size {w : World} {a : Option Addr} {len cap : Nat} {fs : List ByteArray} (h : Sts w a len cap fs) {i : Nat} (hi : i < len) : (fs.getD i ByteArray.empty).size ≤ 140737488351232 := by
  refine h.size _ ?_
  have hl := h.eq
  rw [List.getD_eq_getElem?_getD, List.getElem?_eq_getElem (by omega)]
  exact List.getElem_mem _

theorem conv_cells (w : World) (x : Addr) (len cap : Nat) (bs : List Int) (hl : bs.length = len) (hc : ∀ i, i < len → w.cell? (x.add i) = some (.int .u8 (bs.getD i 0))) :
    (convert 22 9 (.slice (some x) len cap)).run Yba.prog w = .ok (.string (strOfNums bs)) w := by
  have hl' : (loadCells x len).run Yba.prog w = .ok (bs.map (Value.int .u8)).toArray w := by
    have := run_loadCells_list (P := Yba.prog) w x (bs.map (Value.int .u8)) (fun j v hj => by
      have hjl : j < bs.length := by
        rcases Nat.lt_or_ge j bs.length with h | h
        · exact h
        · simp [List.getElem?_eq_none (show (bs.map (Value.int .u8)).length ≤ j by simpa using h)] at hj
      rw [hc j (by omega)]
      simp [List.getElem?_eq_getElem hjl] at hj
      subst hj
      simp [List.getD, List.getElem?_eq_getElem hjl])
    simpa [hl] using this
  rw [run_convert_bytes_string w 22 9 5 _ len cap Yba.underlying22 Yba.underlying5 Yba.underlying9, run_bytesToString w _ len cap bs hl', foldl_push_bytes]
  simp [strOfNums, ByteArray.empty, ByteArray.emptyWithCapacity]
  rfl

theorem Bts.conv {w : World} {a : Option Addr} {len cap : Nat} {bs : List Int} (h : Bts w a len cap bs) : (convert 22 9 (.slice a len cap)).run Yba.prog w = .ok (.string (strOfNums bs)) w := by
  rcases h.at' with ⟨rfl, h0, rfl⟩ | ⟨x, rfl, hc⟩
  · have := h.eq
    subst h0
    obtain rfl := List.eq_nil_of_length_eq_zero this
    exact run_convert_bytes_nil w 22 5 Yba.underlying22 Yba.underlying5 0 0 9 Yba.underlying9
  · exact conv_cells w x len cap bs h.eq hc

theorem strCells_app (a b : ByteArray) : Lib.strCells (a ++ b) = Lib.strCells a ++ Lib.strCells b := by
  simp [Lib.strCells]
theorem strCells_nums (bs : List Int) (h : ∀ x ∈ bs, 0 ≤ x ∧ x < 256) : Lib.strCells (strOfNums bs) = bs.map (Value.int .u8) := by
  unfold Lib.strCells
  rw [strOfNums_data, List.map_map]
  refine List.map_congr_left fun x hx => ?_
  have := h x hx
  simp
  omega
theorem nums_strCells (s : ByteArray) : Lib.strCells s = (s.data.toList.map fun b => (b.toNat : Int)).map (Value.int .u8) := by
  simp [Lib.strCells]
theorem strOfNums_self (s : ByteArray) : strOfNums (s.data.toList.map fun b => (b.toNat : Int)) = s := by
  unfold strOfNums
  congr 1
  simp [Function.comp_def]

/-- A row of our own, as a string. -/
theorem conv_own {w : World} {B n : Nat} {v : Value} {s : ByteArray} (h : w.ownsRow B 5 1 v n (Lib.strCells s)) : (convert 22 9 v).run Yba.prog w = .ok (.string s) w := by
  have hl : n = s.size := by have := h.1; rw [Lib.strCells_length] at this; omega
  rcases h.2 with ⟨rfl, h0⟩ | ⟨g, cap, cur, rfl, hbg, hg, hnc, hcm, hcs, htake⟩
  · subst h0
    have : s = ByteArray.empty := by
      cases s with
      | mk d => cases d with | mk l => cases l with
        | nil => rfl
        | cons x l => exact absurd hl (by show 0 ≠ (x :: l).length; simp)
    subst this
    exact run_convert_bytes_nil w 22 5 Yba.underlying22 Yba.underlying5 0 0 9 Yba.underlying9
  · have := conv_cells w ⟨g, 0, none⟩ n cap (s.data.toList.map fun b => (b.toNat : Int)) (by rw [hl, List.length_map]; rfl) (fun i hi => by
      have e := h.cells (g := g) rfl i (.int .u8 ((s.data.toList.map fun b => (b.toNat : Int)).getD i 0)) (by
        have hi2 : i < s.data.toList.length := by rw [hl] at hi; exact hi
        simp only [Lib.strCells, List.getElem?_map, List.getD_eq_getElem?_getD]
        rw [List.getElem?_eq_getElem hi2]
        rfl)
      exact e)
    rw [strOfNums_self] at this
    exact this

theorem Bts.app {w : World} {a : Option Addr} {len cap : Nat} {bs : List Int} (h : Bts w a len cap bs) (hm : len ≤ 1048576) (ty : TypeId) :
    ∃ v' w', (Builtin.append_ #[22, 22] ty #[.slice none 0 0, .slice a len cap]).run Yba.prog w = .ok v' w' ∧ w'.ownsRow w.heap.size 5 1 v' len (Lib.strCells (strOfNums bs)) ∧ w.grownBy w' none := by
  obtain ⟨i, hi, hz, hs1, hby⟩ := info_parts Yba.info5
  have hnil : w.ownsRow w.heap.size 5 1 (.slice none 0 0) 0 [] := World.ownsRow_nil _ _ _ _
  rw [strCells_nums bs h.byte]
  rcases h.at' with ⟨rfl, h0, rfl⟩ | ⟨x, rfl, hc⟩
  · have := h.eq
    subst h0
    obtain rfl := List.eq_nil_of_length_eq_zero this
    exact ⟨_, w, run_append_owned_none (P := Yba.prog) (w := w) w.heap.size 22 ty 5 i 1 Yba.underlying22 hi _ 0 [] hnil, hnil, ⟨rfl, rfl, rfl, Nat.le_refl _, fun _ _ _ => rfl⟩⟩
  · obtain ⟨v', w', hr, h2, h3, h4⟩ := run_append_own (P := Yba.prog) w w.heap.size 22 ty 5 i (.int .u8 0) 1 1 Yba.underlying22 hi hz hs1 hby rfl (by decide) (.slice none 0 0) 0 [] hnil x len cap (bs.map (Value.int .u8)) (by simp [h.eq])
      (by
        intro j u hj
        have hjl : j < bs.length := by
          rcases Nat.lt_or_ge j bs.length with h | h
          · exact h
          · simp [List.getElem?_eq_none (show (bs.map (Value.int .u8)).length ≤ j by simpa using h)] at hj
        rw [hc j (by have := h.eq; omega)]
        simp [List.getElem?_eq_getElem hjl] at hj
        subst hj
        simp [List.getD, List.getElem?_eq_getElem hjl]) (by intro u hu; simp at hu; obtain ⟨b, _, rfl⟩ := hu; rfl) (by unfold maxLen; omega) (by omega) (Nat.le_refl _)
    exact ⟨v', w', hr, by simpa using h2, h3⟩

theorem wpList_append_run {w w' : World} {v v1 v' : Value} {ops : Array Oper} {rest : List Oper} {o : Oper} {a : Act} {Q : Exit → Act → World → Prop} (hgd : o.guard = none) (sl x : Operand)
    (ho : o.op = .call { callee := .builtin .append, args := #[sl, x], argTypes := #[22, 22] }) (hs : a.eval sl = v) (hx : a.eval x = v1) (hr : (Builtin.append_ #[22, 22] o.type #[v, v1]).run Yba.prog w = .ok v' w')
    (h : wpList Yba.prog ops Q rest (a.put o.dst v') w') : wpList Yba.prog ops Q (o :: rest) a w := by
  refine wpList_plain hgd fun K hK => ?_
  unfold Oper.wp execOp
  simp only [ho, resolve, invoke, builtin, Sem.run_bind, Sem.run_pure, Result.andThen_ok, List.map_toArray, List.map_cons, List.map_nil, hs, hx, hr]
  exact hK _ _ h

theorem Sts.clone {w : World} {a : Option Addr} {len cap : Nat} {fs : List ByteArray} (h : Sts w a len cap fs) (hm : len ≤ 1048576) :
    Calls Yba.prog 6 #[.slice a len cap] w fun e w' => ∃ v', e = .returned v' ∧ w'.ownsRow w.heap.size 9 1 v' len (fs.map Value.string) ∧ Below w.heap.size w w' := by
  have hl := h.eq
  rcases Nat.eq_zero_or_pos len with h0 | h0
  · subst h0
    obtain rfl := List.eq_nil_of_length_eq_zero hl
    cases a with
    | none =>
      refine (Yba.slices_Clone_string_nil 0 cap w).mono fun e w' ⟨he, hw⟩ => ?_
      subst hw
      exact ⟨_, he, World.ownsRow_nil _ _ _ _, Below.refl _ _⟩
    | some x => exact (Yba.slices_Clone_string_zero x cap w).mono fun e w' ⟨v', he, ho, _, hb⟩ => ⟨v', he, ho, hb⟩
  · obtain ⟨b, off, rfl, hlt, hc⟩ := h.get (i := 0) h0
    refine (Yba.slices_Clone_string b off len cap fs w (by omega) (by omega) (fun j hj => hc j (by omega))).mono fun e w' ⟨v', he, ho, _, hb⟩ => ⟨v', he, ?_, hb⟩
    rw [List.take_of_length_le (by omega)] at ho
    exact ho

theorem Sts.equal {w : World} {a : Option Addr} {len cap B : Nat} {fs : List ByteArray} {v : Value} (h : Sts w a len cap fs) (hm : len ≤ 1048576) (ho : w.ownsRow B 9 1 v len (fs.map Value.string)) :
    Calls Yba.prog 8 #[.slice a len cap, v] w fun e w' => e = .returned (.bool true) ∧ ∃ q, w' = w.drewN q := by
  have hl := h.eq
  rcases Nat.eq_zero_or_pos len with h0 | h0
  · subst h0
    obtain rfl := List.eq_nil_of_length_eq_zero hl
    rcases ho.2 with ⟨rfl, _⟩ | ⟨g, cap', cur, rfl, _⟩
    · exact (Yba.slices_Equal_string_empty a none cap 0 0 w (by omega)).mono fun e w' ⟨he, hw⟩ => ⟨by simpa using he, 0, by rw [hw]; rfl⟩
    · exact (Yba.slices_Equal_string_empty a _ cap 0 cap' w (by omega)).mono fun e w' ⟨he, hw⟩ => ⟨by simpa using he, 0, by rw [hw]; rfl⟩
  · obtain ⟨b, off, rfl, hlt, hc⟩ := h.get (i := 0) h0
    rcases ho.2 with ⟨rfl, h1⟩ | ⟨g, cap', cur, rfl, hrest⟩
    · omega
    · refine (Yba.slices_Equal_string b off len cap g 0 len cap' fs fs w (by omega) (by omega) (by omega) (by omega) (fun j hj => hc j (by omega)) (fun j hj => ?_)).mono fun e w' ⟨he, hw⟩ => ⟨by simpa using he, hw⟩
      have := ho.cells (g := g) rfl j (.string (fs.getD j ByteArray.empty)) (by simp [List.getElem?_eq_getElem hj])
      rw [add_plain] at this
      exact this

end Go.Proofs.Ybulkdocu
