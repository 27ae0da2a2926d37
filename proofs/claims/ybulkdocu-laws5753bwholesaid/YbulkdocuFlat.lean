/-
  S5753B: A ROW OF NAMES; THE LIBRARY's Clone AND Equal AT NAMES.
-/
import Derived.Test.YbulkdocuChunk
namespace Go.Proofs.Ybulkdocu
open Go.RowKit Go.Sort
set_option linter.unusedVariables false
set_option linter.unusedSimpArgs false

theorem Yba.info40 : (Yba.prog.info? 40).map (fun i => (i.zero, i.size, i.bytes)) = some (some (.agg #[.int .u8 0, .int .u8 0, .int .u8 0, .int .u8 0, .int .u8 0, .int .u8 0, .int .u8 0, .int .u8 0, .int .u8 0, .int .u8 0, .int .u8 0, .int .u8 0, .int .u8 0, .int .u8 0, .int .u8 0, .int .u8 0]), 16, 16) := by kernel_rfl
theorem Yba.info64 : (Yba.prog.info? 64).map (fun i => (i.zero, i.size, i.bytes)) = some (some (.agg #[.int .i64 0, .int .i64 0, .int .i64 0, .int .u32 0, .int .u8 0]), 5, 32) := by kernel_rfl

def flatN (K : List Nat) : List Value := K.flatMap nameL
theorem flatN_length (K : List Nat) : (flatN K).length = K.length * 16 := by
  induction K with
  | nil => rfl
  | cons k K ih =>
    show (nameL k ++ flatN K).length = _
    rw [List.length_append, ih, nameL_length, List.length_cons]
    omega
theorem flatN_snoc (K : List Nat) (k : Nat) : flatN K ++ nameL k = flatN (K ++ [k]) := by
  simp [flatN]
theorem flatN_one (K : List Nat) : ∀ u ∈ flatN K, u.oneCell' = true := by
  intro u hu
  simp only [flatN, List.mem_flatMap] at hu
  obtain ⟨k, _, hk⟩ := hu
  exact nameL_one k u hk
theorem flatN_get : ∀ (K : List Nat) (i j : Nat), i < K.length → j < 16 → (flatN K)[i * 16 + j]? = (nameL (K.getD i 0))[j]?
  | [], i, j, h, _ => by simp at h
  | k :: K, 0, j, _, hj => by
    show (nameL k ++ flatN K)[0 * 16 + j]? = _
    rw [List.getElem?_append_left (by rw [nameL_length]; omega)]
    simp
  | k :: K, i + 1, j, h, hj => by
    show (nameL k ++ flatN K)[(i + 1) * 16 + j]? = _
    rw [List.getElem?_append_right (by rw [nameL_length]; omega), nameL_length, show (i + 1) * 16 + j - 16 = i * 16 + j by omega, flatN_get K i j (by simpa using h) hj]
    simp
theorem nameL_lt {k j : Nat} {v : Value} (h : (nameL k)[j]? = some v) : j < 16 := by
  have := (List.getElem?_eq_some_iff.1 h).1
  rw [nameL_length] at this
  exact this

/-- The names' row. -/
structure NRow (w : World) (B : Nat) (v : Value) (K : List Nat) : Prop where
  own : w.ownsRow B 40 16 v K.length (flatN K)
  ne : v ≠ .slice none 0 0
theorem NRow.shape {w : World} {B : Nat} {v : Value} {K : List Nat} (h : NRow w B v K) : ∃ g c, v = .slice (some ⟨g, 0, none⟩) K.length c ∧ B ≤ g ∧ g < w.heap.size ∧ ∀ j u, (flatN K)[j]? = some u → w.cell? ⟨g, j, none⟩ = some u := by
  rcases h.own.2 with ⟨h0, _⟩ | ⟨g, cap, cur, rfl, hbg, hg, hnc, hcm, hcs, htake⟩
  · exact absurd h0 h.ne
  · refine ⟨g, cap, rfl, hbg, (Array.getElem?_eq_some_iff.1 hg).1, fun j u hj => ?_⟩
    have := h.own.cells (g := g) rfl j u hj
    rw [add_plain, Nat.zero_add] at this
    exact this
theorem NRow.kept {w w' : World} {B : Nat} {v : Value} {K : List Nat} (h : NRow w B v K) (hb : Below w.heap.size w w') : NRow w' B v K :=
  ⟨h.own.kept (row := none) ⟨hb.os, hb.tape, hb.output, hb.size, fun k hk _ => hb.block k hk⟩ (by cases v.ownBlock <;> simp), h.ne⟩

/-- The keys of bytes. -/
def keys (bs : List Int) : List Nat := bs.map fun x => keyOf x.toNat
theorem keys_lt (bs : List Int) (i : Nat) : (keys bs).getD i 0 < 12 := by
  rw [List.getD_eq_getElem?_getD]
  cases h : (keys bs)[i]? with
  | none => simp
  | some k =>
    simp only [keys, List.getElem?_map, Option.map_eq_some_iff] at h
    obtain ⟨x, _, rfl⟩ := h
    exact keyOf_lt _

/-- slices.Clone at names. -/
theorem cloneN (g c : Nat) (K : List Nat) (w : World) (hK : K.length ≤ 4096) (hc : ∀ j u, (flatN K)[j]? = some u → w.cell? ⟨g, j, none⟩ = some u) :
    Calls Yba.prog 10 #[.slice (some ⟨g, 0, none⟩) K.length c] w fun e w' => ∃ v', e = .returned v' ∧ NRow w' w.heap.size v' K ∧ Below w.heap.size w w' := by
  obtain ⟨i, hi, hz, hs1, hby⟩ := info_parts Yba.info40
  refine (AnyE.slices_Clone Yba.laysCloneN i _ 16 16 hi hz hs1 hby rfl (by decide) Yba.sizeOf40 g 0 K.length c (flatN K) w (flatN_length K) (by unfold maxLen; omega) (by omega) (fun j u hj => by rw [Nat.zero_add]; exact hc j u hj) (flatN_one K)).mono fun e w' ⟨v', he, ho, hne, hb⟩ => ⟨v', he, ⟨ho, hne⟩, hb⟩

theorem equalIn_name (k l : Nat) (hk : k < 12) (hl : l < 12) (w : World) : (Op.equalIn 10000 40 (.agg (nameL k).toArray) (.agg (nameL l).toArray)).run Yba.prog w = .ok (decide (k = l)) w := by
  rw [← nameB_inj hk hl]
  exact run_equalIn_bytes w 9998 40 5 16 Yba.underlying40 Yba.underlying5 Yba.sizeOf5 (nameB k) (nameB l) rfl rfl
theorem neqN : NeqAt Yba.prog 40 (fun x : Fin 12 => .agg (nameL x.val).toArray) (fun x y => decide (x = y)) := by
  refine ⟨fun x y w => ?_, GuardAt.agg (fun x : Fin 12 => (nameL x.val).toArray) eqGuard_name⟩
  rw [run_neq_struct, equalIn_name x.val y.val x.isLt y.isLt w]
  simp [Result.andThen, Fin.ext_iff]

def fin12 (k : Nat) : Fin 12 := if h : k < 12 then ⟨k, h⟩ else 0
theorem fin12_val {k : Nat} (h : k < 12) : (fin12 k).val = k := by simp [fin12, h]
theorem fin_row {K : List Nat} {g : Nat} {w : World} (hk : ∀ i, K.getD i 0 < 12) (hc : ∀ j u, (flatN K)[j]? = some u → w.cell? ⟨g, j, none⟩ = some u) :
    ∀ j, j < (K.map fin12).length → ∀ i v, (nameL ((K.map fin12)[j]!).val)[i]? = some v → w.cell? ⟨g, 0 + j * 16 + i, none⟩ = some v := by
  intro j hj i v hv
  have hj' : j < K.length := by simpa using hj
  have e : ((K.map fin12)[j]!).val = K.getD j 0 := by
    have := hk j
    rw [getElem!_pos _ j hj, List.getElem_map]
    simp only [List.getD_eq_getElem?_getD, List.getElem?_eq_getElem hj', Option.getD_some] at this ⊢
    exact fin12_val this
  rw [e] at hv
  rw [Nat.zero_add]
  refine hc _ _ ?_
  rw [flatN_get K j i hj' (nameL_lt hv)]
  exact hv

theorem allEq_self {α : Type} (eq : α → α → Bool) (h : ∀ x, eq x x = true) : ∀ l : List α, Lib.allEq eq l l = true
  | [] => rfl
  | a :: l => by simp [Lib.allEq, h a, allEq_self eq h l]

/-- slices.Equal at names. -/
theorem equalN (g1 c1 g2 c2 : Nat) (K : List Nat) (w : World) (hK : K.length ≤ 4096) (hk : ∀ i, K.getD i 0 < 12) (h1 : ∀ j u, (flatN K)[j]? = some u → w.cell? ⟨g1, j, none⟩ = some u) (h2 : ∀ j u, (flatN K)[j]? = some u → w.cell? ⟨g2, j, none⟩ = some u) :
    Calls Yba.prog 12 #[.slice (some ⟨g1, 0, none⟩) K.length c1, .slice (some ⟨g2, 0, none⟩) K.length c2] w fun e w' => e = .returned (.bool true) ∧ ∃ q, w' = w.drewN q := by
  have hl : K.length ≤ (K.map fin12).length := by simp
  have h := AnyQ.slices_Equal Yba.laysEqualN 16 Yba.isAgg40 Yba.sizeOf40 (fun x : Fin 12 => nameL x.val) (fun x => nameL_length x.val) (fun x y => decide (x = y)) neqN g1 0 K.length c1 g2 0 K.length c2 (K.map fin12) (K.map fin12) w hl hl (by omega) (by omega) (fin_row hk h1) (fin_row hk h2)
  rw [allEq_self _ (by simp)] at h
  exact h

end Go.Proofs.Ybulkdocu
