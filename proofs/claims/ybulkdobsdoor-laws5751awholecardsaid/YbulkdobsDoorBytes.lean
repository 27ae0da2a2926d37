/-
  S5751A, S5751C: A ROW OF BYTES IN A BLOCK THAT IS KNOWN WHOLE; 'append' within its room; its text.
-/
import Derived.Test.YbulkdobsDoorRows
import Derived.WalkKit
import Derived.Below
import Derived.WalkSmall
import Derived.ArgAppend
import Derived.Laws.BytesArg
import Derived.Laws.CopyRow
namespace Go.Proofs.YbulkdobsDoor
open Go.RowKit

def bts (L : List Int) : List Value := L.map (Value.int .u8)
theorem bts_length (L : List Int) : (bts L).length = L.length := by simp [bts]
theorem bts_get (L : List Int) (i : Nat) (h : i < L.length) : (bts L)[i]? = some (.int .u8 (L.getD i 0)) := by simp [bts, List.getElem?_eq_getElem h]
theorem bts_one (L : List Int) : ∀ v ∈ bts L, v.oneCell' = true := by
  intro v hv
  simp only [bts, List.mem_map] at hv
  obtain ⟨x, _, rfl⟩ := hv
  rfl

/-- Block g holds just these bytes. -/
def Row8 (w : World) (g : Nat) (t : TypeId) (L : List Int) : Prop := w.heap[g]? = some (.cells (bts L).toArray t (0, 0))
theorem Row8.cell {w : World} {g : Nat} {t : TypeId} {L : List Int} (h : Row8 w g t L) (i : Nat) (hi : i < L.length) : w.cell? ⟨g, i, none⟩ = some (.int .u8 (L.getD i 0)) := by
  have e := bts_get L i hi
  rw [World.cell?, h]
  simpa using e
theorem Row8.fr {w : World} {g : Nat} {t : TypeId} {L : List Int} (h : Row8 w g t L) (j : Nat) : w.frozen? ⟨g, j, none⟩ = false := frozen_of_row w g j _ t h
theorem Row8.lt {w : World} {g : Nat} {t : TypeId} {L : List Int} (h : Row8 w g t L) : g < w.heap.size := (Array.getElem?_eq_some_iff.1 h).1
theorem Row8.of_block {w w' : World} {g : Nat} {t : TypeId} {L : List Int} (h : Row8 w g t L) (e : w'.heap[g]? = w.heap[g]?) : Row8 w' g t L := by unfold Row8; rw [e]; exact h
theorem Row8.set {w : World} {g : Nat} {t : TypeId} {L : List Int} (h : Row8 w g t L) (k : Nat) (x : Int) : Row8 (w.setCell ⟨g, k, none⟩ (.int .u8 x)) g t (L.set k x) := by
  have h1 := heap_setCell_same w g k _ t (.int .u8 x) h
  unfold Row8
  rw [h1]
  simp [bts]
theorem Row8.alloc {w : World} {g : Nat} {t : TypeId} {L : List Int} (h : Row8 w g t L) (o : Obj) : Row8 (w.alloc o) g t L := h.of_block (Below.heap_alloc _ _ _ h.lt)

/-- Of what was there only block g may have turned. -/
structure Kept1 (g : Nat) (w w' : World) : Prop where
  os : w'.os = w.os
  tape : w'.tape = w.tape
  output : w'.output = w.output
  size : w.heap.size ≤ w'.heap.size
  block : ∀ k, k < w.heap.size → k ≠ g → w'.heap[k]? = w.heap[k]?
theorem Kept1.refl (g : Nat) (w : World) : Kept1 g w w := ⟨rfl, rfl, rfl, Nat.le_refl _, fun _ _ _ => rfl⟩
theorem Kept1.trans {g : Nat} {a b c : World} (h : Kept1 g a b) (k : Kept1 g b c) : Kept1 g a c :=
  ⟨k.os.trans h.os, k.tape.trans h.tape, k.output.trans h.output, Nat.le_trans h.size k.size, fun i hi h1 => (k.block i (Nat.lt_of_lt_of_le hi h.size) h1).trans (h.block i hi h1)⟩
theorem Kept1.drew {g : Nat} {a b : World} (h : Kept1 g a b) : Kept1 g a b.drew := ⟨h.os, h.tape, h.output, h.size, h.block⟩
theorem Kept1.drewN {g : Nat} {a b : World} (h : Kept1 g a b) (n : Nat) : Kept1 g a (b.drewN n) := ⟨h.os, h.tape, h.output, h.size, h.block⟩
theorem Kept1.alloc {g : Nat} {a b : World} (h : Kept1 g a b) (o : Obj) : Kept1 g a (b.alloc o) := h.trans ⟨rfl, rfl, rfl, by simp, fun k hk _ => Below.heap_alloc _ _ _ hk⟩
theorem Kept1.set {g : Nat} {a b : World} (h : Kept1 g a b) (o : Nat) (v : Value) : Kept1 g a (b.setCell ⟨g, o, none⟩ v) :=
  h.trans ⟨rfl, rfl, rfl, by simp [World.setCell], fun k _ hk => Below.heap_setCell _ _ _ _ hk⟩
theorem Kept1.below {g B : Nat} {w0 w w' : World} (h : Below B w0 w) (hk : Kept1 g w w') (hB : B ≤ w.heap.size) (hg : B ≤ g) : Below B w0 w' :=
  h.trans ⟨hk.os, hk.tape, hk.output, hk.size, fun k hlt => hk.block k (by omega) (by omega)⟩
theorem Kept1.cell {g : Nat} {w w' : World} (h : Kept1 g w w') {a : Addr} {v : Value} (hc : w.cell? a = some v) (hne : a.block ≠ g) : w'.cell? a = some v :=
  (World.cell?_of_block (h.block a.block (World.block_lt_of_cell? _ _ hc) hne)).trans hc
theorem Kept1.frozen {g : Nat} {w w' : World} (h : Kept1 g w w') {a : Addr} (hc : a.block < w.heap.size) (hne : a.block ≠ g) : w'.frozen? a = w.frozen? a :=
  World.frozen?_of_block (h.block a.block hc hne)
theorem Kept1.row {g g' : Nat} {w w' : World} {t : TypeId} {L : List Int} (h : Kept1 g w w') (hr : Row8 w g' t L) (hne : g' ≠ g) : Row8 w' g' t L := hr.of_block (h.block g' hr.lt hne)

/-- F laid over L from n on. -/
def lay (L : List Int) (n : Nat) (F : List Int) : List Int := L.take n ++ (F ++ L.drop (n + F.length))
theorem lay_length (L : List Int) (n : Nat) (F : List Int) (h : n + F.length ≤ L.length) : (lay L n F).length = L.length := by simp [lay]; omega
theorem lay_nil (L : List Int) (n : Nat) : lay L n [] = L := by simp [lay]
theorem lay_take (L : List Int) (n : Nat) (F : List Int) (h : n + F.length ≤ L.length) : (lay L n F).take (n + F.length) = L.take n ++ F := by
  have h1 : (L.take n).length = n := by simp; omega
  unfold lay
  rw [← List.append_assoc, List.take_append_of_le_length (by simp; omega)]
  exact List.take_of_length_le (by simp; omega)
theorem lay_lay (L : List Int) (n : Nat) (F G : List Int) (h : n + F.length + G.length ≤ L.length) : lay (lay L n F) (n + F.length) G = lay L n (F ++ G) := by
  have h1 : (L.take n).length = n := by simp; omega
  unfold lay
  rw [← List.append_assoc (L.take n) F, List.take_append_of_le_length (by simp; omega), List.take_of_length_le (by simp; omega)]
  rw [show (L.take n ++ F ++ L.drop (n + F.length)).drop (n + F.length + G.length) = L.drop (n + (F ++ G).length) by
    rw [List.drop_append, List.drop_eq_nil_of_le (by simp; omega), List.nil_append, List.drop_drop]
    congr 1
    simp
    omega]
  simp

theorem heap_setCells (g : Nat) (t : TypeId) : ∀ (F : List Int) (n : Nat) (L : List Int) (w : World), Row8 w g t L → n + F.length ≤ L.length → Row8 (w.setCells g n (bts F)) g t (lay L n F)
  | [], n, L, w, h, _ => by rw [lay_nil]; exact h
  | x :: F, n, L, w, h, hl => by
    simp only [List.length_cons] at hl
    have h1 := heap_setCells g t F (n + 1) (L.set n x) (w.setCell ⟨g, n, none⟩ (.int .u8 x)) (h.set n x) (by simp; omega)
    have e : lay (L.set n x) (n + 1) F = lay L n (x :: F) := by
      have hn : n < L.length := by omega
      unfold lay
      rw [List.take_set, List.take_succ_eq_append_getElem hn, List.set_append_right _ _ (by simp; omega)]
      rw [List.drop_set]
      simp [show min n L.length = n by omega, Nat.add_assoc, Nat.add_comm 1]
    rw [e] at h1
    exact h1
theorem kept_setCells (g : Nat) : ∀ (F : List Int) (n : Nat) (w : World), Kept1 g w (w.setCells g n (bts F))
  | [], _, w => Kept1.refl g w
  | x :: F, n, w => ((Kept1.refl g w).set n (.int .u8 x)).trans (kept_setCells g F (n + 1) _)

theorem Ybad.info5 : (Ybad.prog.info? 5).map (fun i => (i.zero, i.size, i.bytes)) = some (some (.int .u8 0), 1, 1) := by kernel_rfl

/-- append WITHIN THE ROOM of a block that is known whole. -/
theorem run_append_row8 (w : World) (ty g n C : Nat) (t : TypeId) (L F : List Int) (hr : Row8 w g t L) (hC : C ≤ L.length) (b o m c : Nat) (hm : F.length = m) (hsrc : ∀ j, j < m → w.cell? ⟨b, o + j, none⟩ = some (.int .u8 (F.getD j 0))) (hroom : n + m ≤ C) :
    (Builtin.append_ #[34, 34] ty #[.slice (some ⟨g, 0, none⟩) n C, .slice (some ⟨b, o, none⟩) m c]).run Ybad.prog w = .ok (.slice (some ⟨g, 0, none⟩) (n + m) C) (w.setCells g n (bts F)) := by
  obtain ⟨i, hi, _, hs, _⟩ := info_parts Ybad.info5
  have h := run_append_room_cells (P := Ybad.prog) w 34 ty 5 i Ybad.underlying34 hi g 0 n C ⟨b, o, none⟩ m c (bts F) (by rw [bts_length, hs, hm]; omega)
    (fun j u hj => by
      have hjl : j < F.length := by
        rcases Nat.lt_or_ge j F.length with h | h
        · exact h
        · rw [List.getElem?_eq_none (by rw [bts_length]; exact h)] at hj; cases hj
      rw [bts_get F j hjl] at hj
      obtain rfl := Option.some.inj hj
      rw [show (⟨b, o, none⟩ : Addr).add j = ⟨b, o + j, none⟩ by unfold Addr.add; split <;> simp_all]
      exact hsrc j (by omega)) (bts_one F) hroom
    (fun j hj => by rw [bts_length] at hj; rw [hs, Nat.mul_one, Nat.zero_add, hr.cell (n + j) (by omega)]; rfl)
    (fun j hj => hr.fr _)
  rw [h, hs, Nat.mul_one, Nat.zero_add]

theorem wpList_append_row8 {w : World} {ops : Array Oper} {rest : List Oper} {o : Oper} {a : Act} {Q : Exit → Act → World → Prop} (hgd : o.guard = none) (s x : Operand)
    (ho : o.op = .call { callee := .builtin .append, args := #[s, x], argTypes := #[34, 34] }) (g n C : Nat) (t : TypeId) (L F : List Int) (hs : a.eval s = .slice (some ⟨g, 0, none⟩) n C) (hr : Row8 w g t L) (hC : C ≤ L.length)
    (b of m c : Nat) (hx : a.eval x = .slice (some ⟨b, of, none⟩) m c) (hm : F.length = m) (hsrc : ∀ j, j < m → w.cell? ⟨b, of + j, none⟩ = some (.int .u8 (F.getD j 0))) (hroom : n + m ≤ C)
    (h : ∀ w', Row8 w' g t (lay L n F) → Kept1 g w w' → wpList Ybad.prog ops Q rest (a.put o.dst (.slice (some ⟨g, 0, none⟩) (n + m) C)) w') :
    wpList Ybad.prog ops Q (o :: rest) a w := by
  refine wpList_plain hgd fun K hK => ?_
  have hrun := run_append_row8 w o.type g n C t L F hr hC b of m c hm hsrc hroom
  unfold Oper.wp
  simp [execOp, ho, resolve, invoke, builtin, hs, hx, hrun, Result.andThen]
  exact hK _ _ (h _ (heap_setCells g t F n L w hr (by omega)) (kept_setCells g F n w))

/-- THE TEXT SO FAR: block g has C bytes, the first of them are T. -/
def Txt (w : World) (g : Nat) (t : TypeId) (C : Nat) (T : List Int) : Prop := ∃ L, Row8 w g t L ∧ L.length = C ∧ T.length ≤ C ∧ L.take T.length = T
theorem Txt.alloc {w : World} {g : Nat} {t : TypeId} {C : Nat} {T : List Int} (h : Txt w g t C T) (o : Obj) : Txt (w.alloc o) g t C T := by
  obtain ⟨L, h1, h2, h3, h4⟩ := h
  exact ⟨L, h1.alloc o, h2, h3, h4⟩
theorem Txt.lt {w : World} {g : Nat} {t : TypeId} {C : Nat} {T : List Int} (h : Txt w g t C T) : g < w.heap.size := by
  obtain ⟨L, h1, _⟩ := h
  exact h1.lt
theorem Txt.le {w : World} {g : Nat} {t : TypeId} {C : Nat} {T : List Int} (h : Txt w g t C T) : T.length ≤ C := by
  obtain ⟨L, _, _, h3, _⟩ := h
  exact h3
theorem Kept1.txt {g g' : Nat} {w w' : World} {t : TypeId} {C : Nat} {T : List Int} (h : Kept1 g w w') (hr : Txt w g' t C T) (hne : g' ≠ g) : Txt w' g' t C T := by
  obtain ⟨L, h1, h2, h3, h4⟩ := hr
  exact ⟨L, h.row h1 hne, h2, h3, h4⟩
theorem Txt.cell {w : World} {g : Nat} {t : TypeId} {C : Nat} {T : List Int} (h : Txt w g t C T) (i : Nat) (hi : i < T.length) : w.cell? ⟨g, i, none⟩ = some (.int .u8 (T.getD i 0)) := by
  obtain ⟨L, h1, h2, h3, h4⟩ := h
  rw [h1.cell i (by omega)]
  have e : L[i]? = T[i]? := by rw [← h4, List.getElem?_take, if_pos (by simpa using hi)]
  simp [e]
theorem Txt.fr {w : World} {g : Nat} {t : TypeId} {C : Nat} {T : List Int} (h : Txt w g t C T) (j : Nat) : w.frozen? ⟨g, j, none⟩ = false := by
  obtain ⟨L, h1, _⟩ := h
  exact h1.fr j
theorem Txt.cut {w : World} {g : Nat} {t : TypeId} {C : Nat} {T S : List Int} (h : Txt w g t C (T ++ S)) : Txt w g t C T := by
  obtain ⟨L, h1, h2, h3, h4⟩ := h
  refine ⟨L, h1, h2, by simp at h3; omega, ?_⟩
  have := congrArg (List.take T.length) h4
  rw [List.take_take] at this
  simpa using this
theorem Txt.of_row {w : World} {g : Nat} {t : TypeId} {L : List Int} (h : Row8 w g t L) : Txt w g t L.length [] := ⟨L, h, rfl, by simp, by simp⟩

theorem wpList_append_txt {w : World} {ops : Array Oper} {rest : List Oper} {o : Oper} {a : Act} {Q : Exit → Act → World → Prop} (hgd : o.guard = none) (s x : Operand)
    (ho : o.op = .call { callee := .builtin .append, args := #[s, x], argTypes := #[34, 34] }) (g n C : Nat) (t : TypeId) (T F : List Int) (hs : a.eval s = .slice (some ⟨g, 0, none⟩) n C) (hT : Txt w g t C T) (hn : T.length = n)
    (b of m c : Nat) (hx : a.eval x = .slice (some ⟨b, of, none⟩) m c) (hm : F.length = m) (hsrc : ∀ j, j < m → w.cell? ⟨b, of + j, none⟩ = some (.int .u8 (F.getD j 0))) (hroom : n + m ≤ C)
    (h : ∀ w', Txt w' g t C (T ++ F) → Kept1 g w w' → wpList Ybad.prog ops Q rest (a.put o.dst (.slice (some ⟨g, 0, none⟩) (n + m) C)) w') :
    wpList Ybad.prog ops Q (o :: rest) a w := by
  obtain ⟨L, h1, h2, h3, h4⟩ := hT
  refine wpList_append_row8 hgd s x ho g n C t L F hs h1 (by omega) b of m c hx hm hsrc hroom (fun w' hr hk => h w' ⟨lay L n F, hr, ?_, ?_, ?_⟩ hk)
  · rw [lay_length _ _ _ (by omega), h2]
  · simp; omega
  · rw [List.length_append, hn, lay_take _ _ _ (by omega), ← hn, h4]

/-- The text's string. -/
theorem Txt.str {w : World} {g : Nat} {t : TypeId} {C : Nat} {T : List Int} (h : Txt w g t C T) (n : Nat) (hn : T.length = n) : (convert 34 9 (.slice (some ⟨g, 0, none⟩) n C)).run Ybad.prog w = .ok (.string (strOfNums T)) w :=
  run_convert_bytes_arg w 34 5 Ybad.underlying34 Ybad.underlying5 g 0 n C T hn (fun i hi => by rw [Nat.zero_add]; exact h.cell i (by omega)) 9 Ybad.underlying9

/-- A new block of one byte, of two bytes. -/
theorem new_one (w : World) (t : TypeId) (x : Int) : ∀ j, j < 1 → (w.alloc (.cells #[.int .u8 x] t)).cell? ⟨w.heap.size, 0 + j, none⟩ = some (.int .u8 ([x].getD j 0)) := by
  intro j hj
  obtain rfl : j = 0 := by omega
  simp
theorem new_two (w : World) (t : TypeId) (x y : Int) : ∀ j, j < 2 → (w.alloc (.cells #[.int .u8 x, .int .u8 y] t)).cell? ⟨w.heap.size, 0 + j, none⟩ = some (.int .u8 ([x, y].getD j 0)) := by
  intro j hj
  have : j = 0 ∨ j = 1 := by omega
  rcases this with rfl | rfl <;> simp

end Go.Proofs.YbulkdobsDoor
