/-
  S5748C: 'copy' of elements of two cells each: the run, as a law of the walk and as a step of a region that draws its order.
-/
import Derived.Test.YbulkdoacPlain
import Derived.Laws.IdiomCopy
namespace Go.Proofs.Ybulkdoac.lawS5748CWhole
open Go.RowKit

theorem run_copy2 {P : Program} (w : World) (dT sT ty elem : TypeId) (g o dLen dCap : Nat) (a : Addr) (sLen sCap : Nat) (cur : Array Value) (t : TypeId) (cs : List Value)
    (hu : P.underlying dT = some (.slice elem)) (hs : (P.info? elem).map (·.size) = some 2)
    (hg : w.heap[g]? = some (.cells cur t (0, 0))) (hn : cs.length = Nat.min sLen dLen * 2)
    (hsrc : ∀ j v, cs[j]? = some v → w.cell? (a.add j) = some v) (hfit : o + cs.length ≤ cur.size) (h1 : ∀ v ∈ cs, v.oneCell' = true) :
    (Builtin.copy_ #[dT, sT] ty #[.slice (some ⟨g, o, none⟩) dLen dCap, .slice (some a) sLen sCap]).run P w =
      .ok (goInt (Nat.min sLen dLen)) (w.setRow g (cur.toList.take o ++ cs ++ cur.toList.drop (o + cs.length)).toArray) := by
  have hl := run_loadCells_list (P := P) w a cs hsrc
  have hst := run_storeCells_at P g o t cs 0 cur w hg (by simpa using hfit) h1
  cases hq : P.info? elem with
  | none => simp [hq] at hs
  | some i =>
    have hi : i.size = 2 := by simpa [hq] using hs
    simp [Builtin.copy_, run_underlying hu, Builtin.lenOf, Builtin.firstCells, sizeOf, typeInfo, hq, hi, ← hn, hl, hst]

theorem run_copy2_none {P : Program} (w : World) (dT sT ty elem : TypeId) (d a : Option Addr) (dLen dCap sLen sCap : Nat) (hu : P.underlying dT = some (.slice elem)) (hs : (P.info? elem).map (·.size) = some 2) (hn : Nat.min sLen dLen = 0) :
    (Builtin.copy_ #[dT, sT] ty #[.slice d dLen dCap, .slice a sLen sCap]).run P w = .ok (goInt 0) w := by
  cases hq : P.info? elem with
  | none => simp [hq] at hs
  | some i =>
    have hl : ∀ (x : Addr), (loadCells x 0).run P w = .ok #[] w := fun x => by simpa using run_loadCells_list (P := P) w x [] (by simp)
    cases d <;> cases a <;> simp [Builtin.copy_, run_underlying hu, Builtin.lenOf, Builtin.firstCells, sizeOf, typeInfo, hq, hn, storeCells, hl]

/-- copy of k pairs 'ps' (k: the shorter length) to the head of a row that is known whole: at whatever source that holds them. -/
theorem run_copy_pairs {P : Program} (w : World) (dT sT ty elem : TypeId) (hu : P.underlying dT = some (.slice elem)) (hs : (P.info? elem).map (·.size) = some 2)
    (dp sp : Option Addr) (dLen dCap sLen sCap : Nat) (g : Nat) (us ps : List (Int × Int)) (hg : RowAt w g us) (hn : ps.length = Nat.min sLen dLen)
    (hpos : 0 < ps.length → dp = some ⟨g, 0, none⟩ ∧ ∃ b o, sp = some ⟨b, o, none⟩ ∧ ∀ j v, (flat ps)[j]? = some v → w.cell? ⟨b, o + j, none⟩ = some v)
    (hfit : ps.length ≤ us.length) :
    ∃ w', (Builtin.copy_ #[dT, sT] ty #[.slice dp dLen dCap, .slice sp sLen sCap]).run P w = .ok (.int .i64 (ps.length : Int)) w' ∧ RowAt w' g (put us 0 ps) ∧ (∀ k, k ≠ g → w'.heap[k]? = w.heap[k]?) ∧ Kept2 g g w w' := by
  by_cases h0 : ps.length = 0
  · obtain rfl : ps = [] := List.eq_nil_of_length_eq_zero h0
    refine ⟨w, ?_, by rw [put_nil]; exact hg, fun _ _ => rfl, Kept2.refl _ _ _⟩
    rw [run_copy2_none w dT sT ty elem dp sp dLen dCap sLen sCap hu hs (by simpa using hn.symm)]
    rfl
  · obtain ⟨rfl, b, o, rfl, hsrc⟩ := hpos (by omega)
    have hrun := run_copy2 (P := P) w dT sT ty elem g 0 dLen dCap ⟨b, o, none⟩ sLen sCap (flat us).toArray 28 (flat ps) hu hs hg (by rw [flat_length, hn]) (fun j v h => by rw [show (⟨b, o, none⟩ : Addr).add j = ⟨b, o + j, none⟩ by unfold Addr.add; split <;> simp_all]; exact hsrc j v h) (by simp [flat_length]; omega) (flat_one ps)
    refine ⟨_, by rw [hrun, ← hn]; rfl, ?_, fun k hk => setRow_other w g k _ hk, ⟨rfl, rfl, rfl, by simp [World.setRow], fun k _ hk _ => setRow_other w g k _ hk⟩⟩
    unfold RowAt
    rw [setRow_heap w g _ _ 28 _ hg]
    have e : (put us 0 ps) = ps ++ us.drop ps.length := by simp [put]
    rw [e, flat_append, ← flat_drop]
    simp [flat_length]

/-- As one step of a region that draws its order. -/
theorem step_copy_pairs {P : Program} {ops : Array Oper} {o : Oper} {a : Act} {w : World} {K : Act → World → Prop} {Q : Exit → Act → World → Prop} {E : Prop} (hgd : o.guard = none) (d s : Operand) (dT sT : TypeId)
    (ho : o.op = .call { callee := .builtin .copy, args := #[d, s], argTypes := #[dT, sT] }) (elem : TypeId) (hu : P.underlying dT = some (.slice elem)) (hsz : (P.info? elem).map (·.size) = some 2)
    (dp sp : Option Addr) (dLen dCap sLen sCap : Nat) (hd : a.eval d = .slice dp dLen dCap) (hs : a.eval s = .slice sp sLen sCap)
    (g : Nat) (us ps : List (Int × Int)) (hg : RowAt w g us) (hn : ps.length = Nat.min sLen dLen)
    (hpos : 0 < ps.length → dp = some ⟨g, 0, none⟩ ∧ ∃ b o, sp = some ⟨b, o, none⟩ ∧ ∀ j v, (flat ps)[j]? = some v → w.cell? ⟨b, o + j, none⟩ = some v)
    (hfit : ps.length ≤ us.length)
    (h : ∀ w', RowAt w' g (put us 0 ps) → Hid (∀ k, k ≠ g → w'.heap[k]? = w.heap[k]?) → Kept2 g g w w' → K (a.put o.dst (.int .i64 (ps.length : Int))) w') :
    if Region.wanted o (yielded ops a.tmps) = true then Oper.wp P o a w K Q else E := by
  have hw : Region.wanted o (yielded ops a.tmps) = true := by simp [Region.wanted, hgd]
  rw [if_pos hw]
  obtain ⟨w', hrun, r1, r2, r3⟩ := run_copy_pairs (P := P) w dT sT o.type elem hu hsz dp sp dLen dCap sLen sCap g us ps hg hn hpos hfit
  unfold Oper.wp
  simp [execOp, ho, resolve, invoke, builtin, hd, hs, hrun, Result.andThen]
  exact h w' r1 r2 r3

/-- As a law of the walk. -/
theorem wpList_copy_pairs {P : Program} {ops : Array Oper} {rest : List Oper} {o : Oper} {a : Act} {w : World} {Q : Exit → Act → World → Prop} (hgd : o.guard = none) (d s : Operand) (dT sT : TypeId)
    (ho : o.op = .call { callee := .builtin .copy, args := #[d, s], argTypes := #[dT, sT] }) (elem : TypeId) (hu : P.underlying dT = some (.slice elem)) (hsz : (P.info? elem).map (·.size) = some 2)
    (dp sp : Option Addr) (dLen dCap sLen sCap : Nat) (hd : a.eval d = .slice dp dLen dCap) (hs : a.eval s = .slice sp sLen sCap)
    (g : Nat) (us ps : List (Int × Int)) (hg : RowAt w g us) (hn : ps.length = Nat.min sLen dLen)
    (hpos : 0 < ps.length → dp = some ⟨g, 0, none⟩ ∧ ∃ b o, sp = some ⟨b, o, none⟩ ∧ ∀ j v, (flat ps)[j]? = some v → w.cell? ⟨b, o + j, none⟩ = some v)
    (hfit : ps.length ≤ us.length)
    (h : ∀ w', RowAt w' g (put us 0 ps) → Hid (∀ k, k ≠ g → w'.heap[k]? = w.heap[k]?) → Kept2 g g w w' → wpList P ops Q rest (a.put o.dst (.int .i64 (ps.length : Int))) w') :
    wpList P ops Q (o :: rest) a w := by
  refine wpList_plain hgd fun K hK => ?_
  obtain ⟨w', hrun, r1, r2, r3⟩ := run_copy_pairs (P := P) w dT sT o.type elem hu hsz dp sp dLen dCap sLen sCap g us ps hg hn hpos hfit
  unfold Oper.wp
  simp [execOp, ho, resolve, invoke, builtin, hd, hs, hrun, Result.andThen]
  exact hK _ _ (h w' r1 r2 r3)

end Go.Proofs.Ybulkdoac.lawS5748CWhole
