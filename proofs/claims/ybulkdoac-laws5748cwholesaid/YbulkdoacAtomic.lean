/-
  S5748C: THE WALKS OF '(*atomic.Uint64).Store' AND '.Load', by their contracts.
-/
import Derived.Test.YbulkdoacPlain
import Derived.WalkLawsBesides
import Derived.WalkSpells
import Derived.Laws.LoneSync
namespace Go.Proofs.Ybulkdoac.lawS5748CWhole
open Go.RowKit

theorem store_any (b o : Nat) (v u : Int) (w : World) (hc : w.cell? ⟨b, o, none⟩ = some (.int .u64 u)) (hf : w.frozen? ⟨b, o, none⟩ = false) :
    Calls Yba.prog 4 #[.pointer (some ⟨b, o, none⟩), .int .u64 v] w fun e w' => e = .returned (.tuple #[]) ∧ w.setCell ⟨b, o, none⟩ (.int .u64 v) = w' := by
  have hst := run_call_store (P := Yba.prog) Yba.func7 (by kernel_rfl) (by kernel_rfl) (by kernel_rfl) (by kernel_rfl) (k := .u64) (y := v) hc hf
  go_enter Yba.func4, Yba.ntmps4
  go_wp2
  go_end0
  exact ⟨rfl, rfl⟩
theorem load_any (b o : Nat) (u : Int) (w : World) (hc : w.cell? ⟨b, o, none⟩ = some (.int .u64 u)) :
    Calls Yba.prog 6 #[.pointer (some ⟨b, o, none⟩)] w fun e w' => e = .returned (.int .u64 u) ∧ w = w' := by
  have hl := run_call_load (P := Yba.prog) Yba.func8 (by kernel_rfl) (by kernel_rfl) (by kernel_rfl) .u64 (by kernel_rfl) hc
  go_enter Yba.func6, Yba.ntmps6
  go_wp2
  go_ret
  exact ⟨rfl, rfl⟩
end Go.Proofs.Ybulkdoac.lawS5748CWhole
