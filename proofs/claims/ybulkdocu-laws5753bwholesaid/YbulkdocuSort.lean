/-
  DERIVED: THE SHELF's CONTRACTS AT THIS DUMP, IN PLAIN WORDS (tools/lay-plain.mjs out of 'YbaSort.lean', which tools/lay-shelf.mjs wrote): THE SAME DECLARATIONS UNDER THE SAME NAMES: 'import', 'namespace', 'open', 'def', 'theorem' AND NOTHING ELSE: no command of the shelf's: FOR A HAND-IN. Each laying: the table of numbers ('.._ren') and one theorem, a field a fact of the dump's own or the kernel's comparison; each contract: ONE APPLICATION.
-/
import Derived.Shelf.SlSortCmp.Whole1
import Derived.Shelf.SlicesE.Clone
import Derived.Shelf.SlicesQ.Equal
import Derived.Ground.SlsfProg
import Derived.Ground.SlgnProg
import Derived.Ground.SlgqProg
import Derived.Test.YbulkdocuProg
namespace Go.Proofs
open Go.Shelf
def Yba.laysSort_ren : Go.Shelf.Ren := ⟨fun | 6 => 15 | 15 => 24 | 14 => 23 | 28 => 35 | 29 => 36 | 20 => 27 | 21 => 28 | 22 => 29 | 23 => 30 | 24 => 31 | 25 => 32 | 26 => 33 | 27 => 34 | 46 => 38 | 47 => 39 | 48 => 40 | 49 => 41 | 50 => 42 | 57 => 44 | n => n, fun | 22 => 76 | 24 => 3 | 25 => 80 | 3 => 3 | 39 => 85 | 0 => 0 | 53 => 47 | 55 => 31 | 4 => 4 | 46 => 90 | 45 => 89 | 50 => 60 | 5 => 5 | 9 => 9 | 66 => 98 | 70 => 102 | 76 => 105 | 77 => 106 | n => n, fun | n => n⟩
theorem Yba.laysSort : Go.Proofs.SlLaysF.n6 Yba.prog Yba.laysSort_ren := {
  mixed := by kernel_rfl
  f6 := ⟨Yba.f15.name, by decide, Yba.func15.trans (congrArg some (by kernel_rfl))⟩
  f14 := ⟨Yba.f23.name, by decide, Yba.func23.trans (congrArg some (by kernel_rfl))⟩
  f15 := Yba.func24.trans (congrArg some (by kernel_rfl))
  f20 := ⟨Yba.f27.name, by decide, Yba.func27.trans (congrArg some (by kernel_rfl))⟩
  f21 := ⟨Yba.f28.name, by decide, Yba.func28.trans (congrArg some (by kernel_rfl))⟩
  f22 := ⟨Yba.f29.name, by decide, Yba.func29.trans (congrArg some (by kernel_rfl))⟩
  f23 := ⟨Yba.f30.name, by decide, Yba.func30.trans (congrArg some (by kernel_rfl))⟩
  f24 := ⟨Yba.f31.name, by decide, Yba.func31.trans (congrArg some (by kernel_rfl))⟩
  f25 := ⟨Yba.f32.name, by decide, Yba.func32.trans (congrArg some (by kernel_rfl))⟩
  f26 := ⟨Yba.f33.name, by decide, Yba.func33.trans (congrArg some (by kernel_rfl))⟩
  f27 := ⟨Yba.f34.name, by decide, Yba.func34.trans (congrArg some (by kernel_rfl))⟩
  f28 := Yba.func35.trans (congrArg some (by kernel_rfl))
  f29 := Yba.func36.trans (congrArg some (by kernel_rfl))
  f46 := ⟨Yba.f38.name, by decide, Yba.func38.trans (congrArg some (by kernel_rfl))⟩
  f47 := Yba.func39.trans (congrArg some (by kernel_rfl))
  f48 := Yba.func40.trans (congrArg some (by kernel_rfl))
  f49 := ⟨Yba.f41.name, by decide, Yba.func41.trans (congrArg some (by kernel_rfl))⟩
  f50 := ⟨Yba.f42.name, by decide, Yba.func42.trans (congrArg some (by kernel_rfl))⟩
  f57 := ⟨Yba.f44.name, by decide, Yba.func44.trans (congrArg some (by kernel_rfl))⟩
  t0 := Yba.underlying0
  a0 := Yba.isAgg0
  z0 := Yba.sizeOf0
  v0 := Yba.zeroValue0
  t3 := Yba.underlying3
  a3 := Yba.isAgg3
  z3 := Yba.sizeOf3
  v3 := Yba.zeroValue3
  t4 := Yba.underlying4
  a4 := Yba.isAgg4
  z4 := Yba.sizeOf4
  v4 := Yba.zeroValue4
  t5 := Yba.underlying5
  a5 := Yba.isAgg5
  z5 := Yba.sizeOf5
  v5 := Yba.zeroValue5
  t9 := Yba.underlying9
  a9 := Yba.isAgg9
  z9 := Yba.sizeOf9
  v9 := Yba.zeroValue9
  t22 := Yba.underlying76
  a22 := Yba.isAgg76
  z22 := Yba.sizeOf76
  v22 := Yba.zeroValue76
  a24 := Yba.isAgg3
  z24 := Yba.sizeOf3
  t25 := Yba.underlying80
  a25 := Yba.isAgg80
  z25 := Yba.sizeOf80
  v25 := Yba.zeroValue80
  t39 := Yba.underlying85
  a39 := Yba.isAgg85
  z39 := Yba.sizeOf85
  v39 := Yba.zeroValue85
  t45 := Yba.underlying89
  a45 := Yba.isAgg89
  z45 := Yba.sizeOf89
  v45 := Yba.zeroValue89
  t46 := Yba.underlying90
  a46 := Yba.isAgg90
  z46 := Yba.sizeOf90
  v46 := Yba.zeroValue90
  t50 := Yba.underlying60
  a50 := Yba.isAgg60
  z50 := Yba.sizeOf60
  v50 := Yba.zeroValue60
  t53 := Yba.underlying47
  a53 := Yba.isAgg47
  z53 := Yba.sizeOf47
  v53 := Yba.zeroValue47
  t55 := Yba.underlying31
  a55 := Yba.isAgg31
  z55 := Yba.sizeOf31
  v55 := Yba.zeroValue31
  t66 := Yba.underlying98
  a66 := Yba.isAgg98
  z66 := Yba.sizeOf98
  v66 := Yba.zeroValue98
  t70 := Yba.underlying102
  a70 := Yba.isAgg102
  z70 := Yba.sizeOf102
  v70 := Yba.zeroValue102
  t76 := Yba.underlying105
  a76 := Yba.isAgg105
  z76 := Yba.sizeOf105
  v76 := Yba.zeroValue105
  t77 := Yba.underlying106
  a77 := Yba.isAgg106
  z77 := Yba.sizeOf106
  v77 := Yba.zeroValue106 }
open Go.RowKit Go.Lib Go.Sort in
/-- **slices.SortFunc, IN THE DOCUMENTATION's OWN TERMS: A PERMUTATION OF WHAT THE ROW HELD, SORTED BY 'cmp(a, b) < 0'.** Which of two equals comes first is left open ("The sort is not guaranteed to be stable"). (LAID AT THE INSTANCE 'slices.SortFunc[[]int,int]': no walk: one application.) -/
theorem Yba.slices_SortFunc {α : Type} [Inhabited α] (enc : α → Value) (h1 : OneCell enc) (cf : α → α → Int) (hO : SWO (ltOf cf)) (g : Nat) (cb : Array Value) (blk off cap : Nat) (d : Array α) (w : World) (eg : ∀ args w, (callFunc g args).run Yba.prog w = .ok (.enter g args) w) (hcmp : CmpLays1 Yba.prog g cb enc cf blk off d.size w) (hH : Holds enc w blk off d) (hblk : blk < w.heap.size) (hsz : d.size < 4611686018427387904) :
    Calls Yba.prog 15 #[.slice (some ⟨blk, off, none⟩) d.size cap, .func (.func g) #[] cb] w fun e w' =>
      e = .returned (.tuple #[]) ∧ ∃ d' n os, PermIn 0 d.size d d' ∧ SortedIn (ltOf cf) 0 d.size d' ∧ w' = sortWorld enc w blk off n d' os := Any.slices_SortFunc Yba.laysSort enc h1 cf hO g cb blk off cap d w eg hcmp hH hblk hsz
def Yba.laysCloneN_ren : Go.Shelf.Ren := ⟨fun | 41 => 10 | n => n, fun | 22 => 38 | 23 => 40 | 4 => 4 | n => n, fun | n => n⟩
theorem Yba.laysCloneN : Go.Proofs.SlLaysE0.n41 Yba.prog Yba.laysCloneN_ren := {
  mixed := by kernel_rfl
  f41 := ⟨Yba.f10.name, by decide, Yba.func10.trans (congrArg some (by kernel_rfl))⟩
  t4 := Yba.underlying4
  a4 := Yba.isAgg4
  z4 := Yba.sizeOf4
  v4 := Yba.zeroValue4
  t22 := Yba.underlying38
  a22 := Yba.isAgg38
  z22 := Yba.sizeOf38
  v22 := Yba.zeroValue38 }
def Yba.laysEqualN_ren : Go.Shelf.Ren := ⟨fun | 8 => 12 | n => n, fun | 22 => 38 | 24 => 40 | 4 => 4 | 3 => 3 | 0 => 0 | n => n, fun | n => n⟩
theorem Yba.laysEqualN : Go.Proofs.SlLaysQ.n8 Yba.prog Yba.laysEqualN_ren := {
  mixed := by kernel_rfl
  f8 := ⟨Yba.f12.name, by decide, Yba.func12.trans (congrArg some (by kernel_rfl))⟩
  t0 := Yba.underlying0
  a0 := Yba.isAgg0
  z0 := Yba.sizeOf0
  v0 := Yba.zeroValue0
  t3 := Yba.underlying3
  a3 := Yba.isAgg3
  z3 := Yba.sizeOf3
  v3 := Yba.zeroValue3
  t4 := Yba.underlying4
  a4 := Yba.isAgg4
  z4 := Yba.sizeOf4
  v4 := Yba.zeroValue4
  t22 := Yba.underlying38
  a22 := Yba.isAgg38
  z22 := Yba.sizeOf38
  v22 := Yba.zeroValue38 }
end Go.Proofs
