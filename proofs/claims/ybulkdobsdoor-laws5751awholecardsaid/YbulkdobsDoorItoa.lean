/-
  S5751A: strconv.AppendInt AT BASE 10 INTO THE ROOM OF A BLOCK THAT IS KNOWN WHOLE (after the shelf's AppendUint10.lean, whose contract is over a row of the element's own block).
-/
import Derived.Test.YbulkdobsDoorShelf
import Derived.Test.YbulkdobsDoorString
import Derived.Lib.ItoaMem
import Derived.Lib.AppendIntMem
import Derived.Lib.ItoaWalk
import Derived.Lib.Walk
import Derived.Lib.AppendStr
import Derived.BigCall
import Derived.BigGuard
import Derived.CellFam
namespace Go.Proofs.YbulkdobsDoor
open Go.RowKit Go.Sort

/-- A number's decimal digits. -/
def nums (l : List UInt8) : List Int := l.map fun b => (b.toNat : Int)
def dec (u : Nat) : List Int := nums (Lib.decDigits u)
theorem dec_length (u : Nat) : (dec u).length = Lib.nDigits u := by simp [dec, nums, Lib.decDigits_length]
theorem dec_small (u : Nat) (h : u < 10) : dec u = [48 + (u : Int)] := by
  rw [dec, Lib.decDigits_one h]
  simp [nums]
  omega
theorem dec_big (u : Nat) (h : ¬ u < 10) : dec u = dec (u / 10) ++ [48 + ((u % 10 : Nat) : Int)] := by
  rw [dec, dec, Lib.decDigits, dif_neg h]
  simp [nums]
  omega
theorem bts_nums (l : List UInt8) : bts (nums l) = Lib.byteCells l := by simp [bts, nums, Lib.byteCells]

theorem wpList_append_txt_string {w : World} {ops : Array Oper} {rest : List Oper} {o : Oper} {a : Act} {Q : Exit → Act → World → Prop} (hgd : o.guard = none) (s x : Operand)
    (ho : o.op = .call { callee := .builtin .append, args := #[s, x], argTypes := #[34, 9] }) (g n C : Nat) (t : TypeId) (T : List Int) (hs : a.eval s = .slice (some ⟨g, 0, none⟩) n C) (hT : Txt w g t C T) (hn : T.length = n)
    (l : List UInt8) (hx : a.eval x = .string ⟨l.toArray⟩) (m : Nat) (hm : l.length = m) (hroom : n + m ≤ C)
    (h : ∀ w', Txt w' g t C (T ++ nums l) → Kept1 g w w' → wpList Ybad.prog ops Q rest (a.put o.dst (.slice (some ⟨g, 0, none⟩) (n + m) C)) w') :
    wpList Ybad.prog ops Q (o :: rest) a w := by
  obtain ⟨i, hi, _, hs1, _⟩ := info_parts Ybad.info5
  obtain ⟨L, h1, h2, h3, h4⟩ := hT
  have hnl : (nums l).length = m := by simp [nums, hm]
  have hsz : (⟨l.toArray⟩ : ByteArray).size = m := by simp [ByteArray.size, hm]
  have hf := Lib.run_firstCells_string (P := Ybad.prog) w 1 ⟨l.toArray⟩
  have hst := run_storeCells_cells (P := Ybad.prog) g n (bts (nums l)) 0 w (fun j hj => by rw [bts_length] at hj; rw [Nat.add_zero, h1.cell (n + j) (by omega)]; rfl) (fun j hj => h1.fr _) (bts_one _)
  have hcl : Lib.strCells ⟨l.toArray⟩ = bts (nums l) := by rw [bts_nums]; rfl
  have hrun : (Builtin.append_ #[34, 9] o.type #[.slice (some ⟨g, 0, none⟩) n C, .string ⟨l.toArray⟩]).run Ybad.prog w = .ok (.slice (some ⟨g, 0, none⟩) (n + m) C) (w.setCells g n (bts (nums l))) := by
    rw [hcl] at hf
    rw [hsz] at hf
    simp only [Nat.add_zero] at hst
    simp [Builtin.append_, run_underlying Ybad.underlying34, run_underlying Ybad.underlying9, sizeOf, typeInfo, hi, hs1, Builtin.lenOf, hsz, hroom, hf, Addr.add_lit, hst]
  refine wpList_plain hgd fun K hK => ?_
  unfold Oper.wp
  simp [execOp, ho, resolve, invoke, builtin, hs, hx, hrun, Result.andThen]
  refine hK _ _ (h _ ⟨lay L n (nums l), heap_setCells g t (nums l) n L w h1 (by omega), ?_, ?_, ?_⟩ (kept_setCells g (nums l) n w))
  · rw [lay_length _ _ _ (by omega), h2]
  · simp; omega
  · rw [List.length_append, hn, lay_take _ _ _ (by omega), ← hn, h4]

theorem nd9 (u : Nat) (h : u < 1000000000) : Lib.nDigits u ≤ 9 := by
  by_cases h1 : u < 10
  · rw [Lib.nDigits_small h1]; omega
  · have h9 : ∀ k v : Nat, v < 10 ^ (k + 1) → Lib.nDigits v ≤ k + 1 := by
      intro k
      induction k with
      | zero => intro v hv; rw [Lib.nDigits_small (by simpa using hv)]; omega
      | succ k ih =>
        intro v hv
        by_cases h2 : v < 10
        · rw [Lib.nDigits_small h2]; omega
        · rw [Lib.nDigits_big h2]
          have := ih (v / 10) (by rw [Nat.pow_succ] at hv; omega)
          omega
    exact h9 8 u (by omega)

theorem slice_arr24 (A k : Nat) (hk : k ≤ 24) (wx : World) : (Instr.sliceAt 61 (.pointer (some ⟨A, 0, none⟩)) none (some (.int .i64 (k : Int))) none).run Ybad.prog wx = .ok (.slice (some ⟨A, 0, none⟩) k 24) wx := by
  have hal : Ybad.prog.arrayLen 61 = 24 := by simp [Program.arrayLen, Ybad.underlying61]
  rw [run_sliceAt_array_h wx 61 ⟨A, 0, none⟩ (by simp [Program.arrayLen, Program.elem, Ybad.underlying61]) .i64 (k : Int) (by omega) (by rw [hal]; omega)]
  go_simp

set_option maxRecDepth 100000 in
theorem appUint_small (g n C : Nat) (t : TypeId) (T : List Int) (u : Nat) (w : World) (hu : u < 100) (hT : Txt w g t C T) (hn : T.length = n) (hroom : n + Lib.nDigits u ≤ C) :
    Calls Ybad.prog 27 #[.slice (some ⟨g, 0, none⟩) n C, .int .u64 u, .int .i64 10] w fun e w' => e = .returned (.slice (some ⟨g, 0, none⟩) (n + Lib.nDigits u) C) ∧ Txt w' g t C (T ++ dec u) ∧ Kept1 g w w' := by
  have HN : Hid (T.length = n) := hn
  clear hn
  have hs : Calls Ybad.prog 31 #[.int .i64 u] w fun e w' => e = .returned (.string ⟨(Lib.decDigits u).toArray⟩) ∧ w' = w := Ybad.internal_strconv_small u hu w
  go_enter Ybad.func27, Ybad.ntmps27
  go_wp2_with fail
  refine hs.mono ?_
  rintro e w' ⟨rfl, rfl⟩
  go_wp2_with ((at_builtin; refine wpList_append_txt_string rfl _ _ rfl g n C t T rfl hT HN.out (Lib.decDigits u) rfl (Lib.nDigits u) (Lib.decDigits_length u) hroom ?_))
  intro w1 hr1 hk1
  go_wp2
  go_ret
  exact ⟨rfl, hr1, hk1⟩

set_option maxRecDepth 100000 in
set_option maxHeartbeats 1000000 in
theorem appUint_big (g n C : Nat) (t : TypeId) (T : List Int) (u : Nat) (w : World) (hu : 100 ≤ u) (hu9 : u < 1000000000) (hT : Txt w g t C T) (hn : T.length = n) (hroom : n + Lib.nDigits u ≤ C) (htab : Lib.TabIs Ybad.prog w powName .u64 Lib.pow10Tab) :
    Calls Ybad.prog 27 #[.slice (some ⟨g, 0, none⟩) n C, .int .u64 u, .int .i64 10] w fun e w' => e = .returned (.slice (some ⟨g, 0, none⟩) (n + Lib.nDigits u) C) ∧ Txt w' g t C (T ++ dec u) ∧ Kept1 g w w' := by
  have HN : Hid (T.length = n) := hn
  clear hn
  have hnd := nd9 u hu9
  have hsl := slice_arr24 w.heap.size (Lib.nDigits u) (by omega)
  have hH0 := Lib.holds_zero0 w 61 (Lib.nDigits u) (by omega)
  have hfmt := Ybad.internal_strconv_formatBase10 w.heap.size 0 24 u (Array.replicate (Lib.nDigits u) 0) (w.alloc (.cells Lib.zeros24 61)) hH0 (by rw [Array.size_replicate]; exact Lib.lt_pow_nDigits u) (by omega) (by rw [Array.size_replicate]; omega)
  rw [Array.size_replicate] at hfmt
  have HH0 : Hid (Holds (fun (b : UInt8) => Value.int .u8 (b.toNat : Int)) (w.alloc (.cells Lib.zeros24 61)) w.heap.size 0 (Array.replicate (Lib.nDigits u) (0 : UInt8))) := hH0
  have hnum := Ybad.internal_strconv_numDigits u (by omega) (by omega) (w.alloc (.cells Lib.zeros24 61)) (Lib.tabIs_alloc htab _)
  have iu : (100 : Int) ≤ (u : Int) := by omega
  clear hH0
  go_enter Ybad.func27, Ybad.ntmps27
  go_wp2_with fail
  refine hnum.mono ?_
  rintro e w' ⟨rfl, rfl⟩
  go_wp2_with fail
  refine hfmt.mono ?_
  rintro e w' ⟨rfl, k, v', dk, rfl, hF⟩
  have hcells : ∀ j, j < Lib.nDigits u → ((putRow (fun (b : UInt8) => Value.int .u8 (b.toNat : Int)) (w.alloc (.cells Lib.zeros24 61)) w.heap.size 0 dk).drewN k).cell? ⟨w.heap.size, 0 + j, none⟩ = some (.int .u8 ((dec u).getD j 0)) := by
    intro j hj
    have hjl : j < (Lib.decDigits u).length := by rw [Lib.decDigits_length]; exact hj
    have e5 : (dec u).getD j 0 = ((Lib.decDigits u)[j].toNat : Int) := by simp [dec, nums, hjl]
    rw [e5, Lib.row_is_numeral hF j hjl, World.cell?_drewN]
    exact cell?_putRow (fun (b : UInt8) => Value.int .u8 (b.toNat : Int)) _ w.heap.size 0 _ dk HH0.out (by rw [hF.size, Array.size_replicate]) j (by rw [hF.size]; exact hj)
  obtain ⟨os, eo⟩ := Lib.fin_at w (.cells Lib.zeros24 61) dk k 0
  have hbel : Below w.heap.size w ((putRow (fun (b : UInt8) => Value.int .u8 (b.toNat : Int)) (w.alloc (.cells Lib.zeros24 61)) w.heap.size 0 dk).drewN k) := by rw [eo]; exact Lib.below_grow w.heap.size w (Nat.le_refl _) k os
  generalize (putRow (fun (b : UInt8) => Value.int .u8 (b.toNat : Int)) (w.alloc (.cells Lib.zeros24 61)) w.heap.size 0 dk).drewN k = W2 at hcells hbel ⊢
  clear eo HH0 hfmt hF hnum htab
  have hT2 : Txt W2 g t C T := hT.below hbel
  have hK2 : Kept1 g w W2 := Kept1.of_below g hbel
  go_wp2_with (at_builtin; refine wpList_append_txt rfl _ _ rfl g n C t T (dec u) rfl hT2 HN.out w.heap.size 0 (Lib.nDigits u) 24 rfl (dec_length u) hcells hroom ?_)
  intro w1 hr1 hk1
  go_wp2
  go_ret
  exact ⟨rfl, hr1, hK2.trans hk1⟩

theorem appUint (g n C : Nat) (t : TypeId) (T : List Int) (u : Nat) (w : World) (hu9 : u < 1000000000) (hT : Txt w g t C T) (hn : T.length = n) (hroom : n + Lib.nDigits u ≤ C) (htab : Lib.TabIs Ybad.prog w powName .u64 Lib.pow10Tab) :
    Calls Ybad.prog 27 #[.slice (some ⟨g, 0, none⟩) n C, .int .u64 u, .int .i64 10] w fun e w' => e = .returned (.slice (some ⟨g, 0, none⟩) (n + Lib.nDigits u) C) ∧ Txt w' g t C (T ++ dec u) ∧ Kept1 g w w' := by
  by_cases h : u < 100
  · exact appUint_small g n C t T u w h hT hn hroom
  · exact appUint_big g n C t T u w (by omega) hu9 hT hn hroom htab

set_option maxRecDepth 100000 in
theorem appInt (g n C : Nat) (t : TypeId) (T : List Int) (u : Nat) (w : World) (hu9 : u < 1000000000) (hT : Txt w g t C T) (hn : T.length = n) (hroom : n + Lib.nDigits u ≤ C) (htab : Lib.TabIs Ybad.prog w powName .u64 Lib.pow10Tab) :
    Calls Ybad.prog 20 #[.slice (some ⟨g, 0, none⟩) n C, .int .i64 u, .int .i64 10] w fun e w' => e = .returned (.slice (some ⟨g, 0, none⟩) (n + Lib.nDigits u) C) ∧ Txt w' g t C (T ++ dec u) ∧ Kept1 g w w' := by
  have hc := appUint g n C t T u w hu9 hT hn hroom htab
  clear hn
  have h2 : Calls Ybad.prog 25 #[.slice (some ⟨g, 0, none⟩) n C, .int .i64 u, .int .i64 10] w fun e w' => e = .returned (.slice (some ⟨g, 0, none⟩) (n + Lib.nDigits u) C) ∧ Txt w' g t C (T ++ dec u) ∧ Kept1 g w w' := by
    go_enter Ybad.func25, Ybad.ntmps25
    go_wp2_with fail
    refine hc.mono ?_
    rintro e w' ⟨rfl, h1, h2⟩
    go_wp2
    go_ret
    exact ⟨rfl, h1, h2⟩
  go_enter Ybad.func20, Ybad.ntmps20
  go_wp2_with fail
  refine h2.mono ?_
  rintro e w' ⟨rfl, h1, h2⟩
  go_wp2
  go_ret
  exact ⟨rfl, h1, h2⟩

end Go.Proofs.YbulkdobsDoor
