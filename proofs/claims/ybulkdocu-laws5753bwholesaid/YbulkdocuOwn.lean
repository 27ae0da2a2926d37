/-
  S5753A: append TO A ROW OF BYTES THAT IS THE CALL's OWN, AND WHAT STAYS OF THE VALUE THAT WAS APPENDED TO.
-/
import Derived.Test.YbulkdocuRows
import Derived.WalkKit
import Derived.Below
import Derived.OwnWalk
import Derived.Lib.AppendStr
import Derived.Lib.UnsafeStr
import Derived.Laws.BytesArg
namespace Go.Proofs.Ybulkdocu
open Go.RowKit

theorem Yba.info5 : (Yba.prog.info? 5).map (fun i => (i.zero, i.size, i.bytes)) = some (some (.int .u8 0), 1, 1) := by kernel_rfl

/-- The old value's row stands in the world behind the append of a string. -/
theorem keeps_str {w w' : World} {B n : Nat} {v v' : Value} {xs : List Value} {ty : TypeId} (hown : w.ownsRow B 5 1 v n xs) (s : ByteArray) (h63 : n + s.size ≤ 140737488355328)
    (hr : (Builtin.append_ #[22, 9] ty #[v, .string s]).run Yba.prog w = .ok v' w') : w'.ownsRow B 5 1 v n xs := by
  obtain ⟨i, hi, hz, hs1, hby⟩ := info_parts Yba.info5
  rcases hown.2 with ⟨rfl, rfl⟩ | ⟨g, cap, cur, rfl, hbg, hg, hnc, hcm, hcs, htake⟩
  · have : xs = [] := List.eq_nil_of_length_eq_zero (by simpa using hown.1)
    subst this
    exact World.ownsRow_nil _ _ _ _
  · by_cases hroom : n + s.size ≤ cap
    · have hcs' : cur.size = cap := by simpa using hcs
      rw [Lib.run_append_room_string (P := Yba.prog) w 22 9 ty 5 i Yba.underlying22 Yba.underlying9 hi hs1 g n cap cur hg s hroom (by omega)] at hr
      obtain ⟨rfl, rfl⟩ := Result.ok.inj hr
      refine ⟨hown.1, .inr ⟨g, cap, _, rfl, hbg, setRow_heap w g cur _ 5 _ hg, hnc, hcm, ?_, ?_⟩⟩
      · simp only [List.size_toArray, List.length_append, List.length_take, List.length_drop, Array.length_toList, Lib.strCells_length]
        omega
      · have ht' : cur.toList.take n = xs := by simpa using htake
        have hl : xs.length = n := by simpa using hown.1
        rw [ht', Nat.mul_one, ← hl, List.append_assoc]
        exact List.take_left
    · have holds : ∀ j u, xs[j]? = some u → w.cell? ((⟨g, 0, none⟩ : Addr).add j) = some u := hown.cells (g := g) rfl
      have hxl : xs.length = n := by simpa using hown.1
      rw [Lib.run_append_grow_string (P := Yba.prog) w 22 9 ty 5 i (.int .u8 0) Yba.underlying22 Yba.underlying9 hi hz ⟨g, 0, none⟩ n cap xs (by rw [hs1]; omega) holds s (by omega) (by omega) (by rw [hby]; exact growslice_fits (by omega) (by omega))] at hr
      obtain ⟨rfl, rfl⟩ := Result.ok.inj hr
      exact World.ownsRow.alloc (w := w.drew) hown _

theorem keeps_one {w w' : World} {B n : Nat} {v v' : Value} {xs : List Value} {ty : TypeId} (hown : w.ownsRow B 5 1 v n xs) (a : Addr) (c : Nat) (x : Value) (hx : w.cell? a = some x) (h1 : x.oneCell' = true) (ha : a.spot = none) (h63 : n + 1 ≤ 140737488355328)
    (hr : (Builtin.append_ #[22, 22] ty #[v, .slice (some a) 1 c]).run Yba.prog w = .ok v' w') : w'.ownsRow B 5 1 v n xs := by
  obtain ⟨i, hi, hz, hs1, hby⟩ := info_parts Yba.info5
  have hnews : ∀ j u, [x][j]? = some u → w.cell? (a.add j) = some u := by
    intro j u hj
    rcases j with _ | j
    · simp at hj
      subst hj
      obtain ⟨b, o, sp⟩ := a
      simp only at ha
      subst ha
      rw [show (⟨b, o, none⟩ : Addr).add 0 = ⟨b, o, none⟩ by unfold Addr.add; split <;> simp_all]
      exact hx
    · simp at hj
  have h1' : ∀ u ∈ [x], u.oneCell' = true := by intro u hu; simp at hu; subst hu; exact h1
  rcases hown.2 with ⟨rfl, rfl⟩ | ⟨g, cap, cur, rfl, hbg, hg, hnc, hcm, hcs, htake⟩
  · have : xs = [] := List.eq_nil_of_length_eq_zero (by simpa using hown.1)
    subst this
    exact World.ownsRow_nil _ _ _ _
  · have hcs' : cur.size = cap := by simpa using hcs
    have hxl : xs.length = n := by simpa using hown.1
    by_cases hroom : n + 1 ≤ cap
    · rw [run_append_room (P := Yba.prog) w 22 ty 5 i Yba.underlying22 hi g n cap cur hg a 1 c [x] (by rw [hs1]; rfl) hnews h1' hroom (by rw [hs1]; simp; omega)] at hr
      obtain ⟨rfl, rfl⟩ := Result.ok.inj hr
      refine ⟨hown.1, .inr ⟨g, cap, _, rfl, hbg, setRow_heap w g cur _ 5 _ hg, hnc, hcm, ?_, ?_⟩⟩
      · rw [hs1]
        simp
        omega
      · have ht' : cur.toList.take n = xs := by simpa using htake
        rw [hs1, Nat.mul_one, ht', ← hxl, List.append_assoc]
        exact List.take_left
    · have holds : ∀ j u, xs[j]? = some u → w.cell? ((⟨g, 0, none⟩ : Addr).add j) = some u := hown.cells (g := g) rfl
      rw [run_append_grow (P := Yba.prog) w 22 ty 5 i (.int .u8 0) Yba.underlying22 hi hz ⟨g, 0, none⟩ n cap xs (by rw [hs1]; omega) holds a 1 c [x] (by rw [hs1]; rfl) hnews (by omega) (by omega) (by rw [hby]; exact growslice_fits (by omega) (by omega))] at hr
      obtain ⟨rfl, rfl⟩ := Result.ok.inj hr
      exact World.ownsRow.alloc (w := w.drew) hown _

/-- What was there first stands yet, and what has been appended to it. -/
structure Own2 (w : World) (B : Nat) (v0 : Value) (n0 : Nat) (xs0 : List Value) (v : Value) (n : Nat) (xs : List Value) : Prop where
  old : w.ownsRow B 5 1 v0 n0 xs0
  now : w.ownsRow B 5 1 v n xs
  pre : xs.take n0 = xs0
  le : n0 ≤ n

theorem Own2.step {w w' : World} {B n0 n n' : Nat} {v0 v v' : Value} {xs0 xs ys : List Value} (h : Own2 w B v0 n0 xs0 v n xs) (hnew : w'.ownsRow B 5 1 v' (n + n') (xs ++ ys)) (hkept : w'.ownsRow B 5 1 v n xs) (hg : w.grownBy w' v.ownBlock) :
    Own2 w' B v0 n0 xs0 v' (n + n') (xs ++ ys) := by
  have hl : xs.length = n := by simpa using h.now.1
  have hl0 : xs0.length = n0 := by simpa using h.old.1
  refine ⟨?_, hnew, ?_, by have := h.le; omega⟩
  · rcases h.old.2 with ⟨rfl, rfl⟩ | ⟨g, cap, cur, rfl, hbg, hgg, hnc, hcm, hcs, htake⟩
    · have : xs0 = [] := List.eq_nil_of_length_eq_zero hl0
      subst this
      exact World.ownsRow_nil _ _ _ _
    · by_cases hb : v.ownBlock = some g
      · rcases h.now.2 with ⟨rfl, _⟩ | ⟨g1, cap1, cur1, rfl, hbg1, hgg1, hnc1, hcm1, hcs1, htake1⟩
        · simp [Value.ownBlock] at hb
        · simp [Value.ownBlock] at hb
          subst hb
          have e1 := Option.some.inj (hgg.symm.trans hgg1)
          simp only [Obj.cells.injEq] at e1
          obtain ⟨rfl, _⟩ := e1
          rcases hkept.2 with ⟨e2, _⟩ | ⟨g2, cap2, cur2, e2, hbg2, hgg2, hnc2, hcm2, hcs2, htake2⟩
          · cases e2
          · simp only [Value.slice.injEq, Option.some.injEq, Addr.mk.injEq] at e2
            obtain ⟨⟨rfl, _⟩, _, rfl⟩ := e2
            refine ⟨h.old.1, .inr ⟨g1, cap, cur2, rfl, hbg, hgg2, hnc, hcm, by omega, ?_⟩⟩
            rw [Nat.mul_one] at htake2 ⊢
            rw [← h.pre, ← htake2, List.take_take, Nat.min_eq_left h.le]
      · exact h.old.kept hg (.inr (by simpa [Value.ownBlock] using fun e => hb e.symm))
  · rw [List.take_append_of_le_length (by have := h.le; omega)]
    exact h.pre

theorem Own2.kept {w w' : World} {B n0 n : Nat} {v0 v : Value} {xs0 xs : List Value} (h : Own2 w B v0 n0 xs0 v n xs) (hb : Below w.heap.size w w') : Own2 w' B v0 n0 xs0 v n xs := by
  have hg : w.grownBy w' none := ⟨hb.os, hb.tape, hb.output, hb.size, fun k hk _ => hb.block k hk⟩
  exact ⟨h.old.kept hg (by cases v0.ownBlock <;> simp), h.now.kept hg (by cases v.ownBlock <;> simp), h.pre, h.le⟩

theorem wpList_append2_str {w : World} {ops : Array Oper} {rest : List Oper} {o : Oper} {a : Act} {Q : Exit → Act → World → Prop} (hgd : o.guard = none) (sl x : Operand)
    (ho : o.op = .call { callee := .builtin .append, args := #[sl, x], argTypes := #[22, 9] }) (B : Nat) (v0 v : Value) (n0 n : Nat) (xs0 xs : List Value) (hs : a.eval sl = v) (hown : Own2 w B v0 n0 xs0 v n xs) (s : ByteArray) (hx : a.eval x = .string s)
    (h63 : n + s.size ≤ 140737488355328) (hB : B ≤ w.heap.size)
    (h : ∀ v' w', Own2 w' B v0 n0 xs0 v' (n + s.size) (xs ++ Lib.strCells s) → w.grownBy w' v.ownBlock → wpList Yba.prog ops Q rest (a.put o.dst v') w') : wpList Yba.prog ops Q (o :: rest) a w := by
  obtain ⟨i, hi, hz, hs1, hby⟩ := info_parts Yba.info5
  refine wpList_plain hgd fun K hK => ?_
  obtain ⟨v', w', hr, h2, h3, h4⟩ := Lib.run_append_own_string (P := Yba.prog) w B 22 9 o.type 5 i Yba.underlying22 Yba.underlying9 hi hz hs1 hby v n xs hown.now s (by unfold maxLen; omega) h63 hB
  have hk := keeps_str hown.now s h63 hr
  unfold Oper.wp execOp
  simp only [ho, resolve, invoke, builtin, Sem.run_bind, Sem.run_pure, Result.andThen_ok, List.map_toArray, List.map_cons, List.map_nil, hs, hx, hr]
  exact hK _ _ (h v' w' (hown.step h2 hk h3) h3)

theorem wpList_append2_one {w : World} {ops : Array Oper} {rest : List Oper} {o : Oper} {a : Act} {Q : Exit → Act → World → Prop} (hgd : o.guard = none) (sl x : Operand)
    (ho : o.op = .call { callee := .builtin .append, args := #[sl, x], argTypes := #[22, 22] }) (B : Nat) (v0 v : Value) (n0 n : Nat) (xs0 xs : List Value) (hs : a.eval sl = v) (hown : Own2 w B v0 n0 xs0 v n xs) (b off c : Nat) (y : Int) (hx : a.eval x = .slice (some ⟨b, off, none⟩) 1 c)
    (hy : w.cell? ⟨b, off, none⟩ = some (.int .u8 y)) (h63 : n + 1 ≤ 140737488355328) (hB : B ≤ w.heap.size)
    (h : ∀ v' w', Own2 w' B v0 n0 xs0 v' (n + 1) (xs ++ [.int .u8 y]) → w.grownBy w' v.ownBlock → wpList Yba.prog ops Q rest (a.put o.dst v') w') : wpList Yba.prog ops Q (o :: rest) a w := by
  obtain ⟨i, hi, hz, hs1, hby⟩ := info_parts Yba.info5
  refine wpList_plain hgd fun K hK => ?_
  obtain ⟨v', w', hr, h2, h3, h4⟩ := run_append_own (P := Yba.prog) w B 22 o.type 5 i (.int .u8 0) 1 1 Yba.underlying22 hi hz hs1 hby rfl (by decide) v n xs hown.now ⟨b, off, none⟩ 1 c [.int .u8 y] rfl
    (by
      intro j u hj
      rcases j with _ | j
      · simp at hj
        subst hj
        rw [show (⟨b, off, none⟩ : Addr).add 0 = ⟨b, off, none⟩ by unfold Addr.add; split <;> simp_all]
        exact hy
      · simp at hj) (by intro u hu; simp at hu; subst hu; rfl) (by unfold maxLen; omega) (by omega) hB
  have hk := keeps_one hown.now ⟨b, off, none⟩ c (.int .u8 y) hy rfl rfl h63 hr
  unfold Oper.wp execOp
  simp only [ho, resolve, invoke, builtin, Sem.run_bind, Sem.run_pure, Result.andThen_ok, List.map_toArray, List.map_cons, List.map_nil, hs, hx, hr]
  exact hK _ _ (h v' w' (hown.step h2 hk h3) h3)

end Go.Proofs.Ybulkdocu
