/-
  sync/atomic's Uint64 as this program calls it: Store (function 19), Load (function 20), each by a contract.
-/
import Derived.Test.Qxb6618818aRows
import Derived.WalkKit
import Derived.Laws.LoneSync
import Derived.WalkLawsBesides
import Derived.WalkSpells
namespace Go.Proofs.Qxb6618818a
open Go.RowKit

theorem store_any (b o : Nat) (y : Int) (u : Value) (w : World) (hc : w.cell? ⟨b, o, none⟩ = some u) (hz : w.frozen? ⟨b, o, none⟩ = false) :
    Calls Try.prog 19 #[.pointer (some ⟨b, o, none⟩), .int .u64 y] w fun e w' => e = .returned (.tuple #[]) ∧ w' = w.setCell ⟨b, o, none⟩ (.int .u64 y) := by
  have hd := run_call_store (P := Try.prog) (f := 24) Try.func24 (by kernel_rfl) (by kernel_rfl) (by kernel_rfl) (by kernel_rfl) (k := .u64) (y := y) hc hz
  go_enter Try.func19, Try.ntmps19
  go_wp2
  go_end0
  exact ⟨rfl, rfl⟩

theorem load_any (b o : Nat) (y : Int) (w : World) (hc : w.cell? ⟨b, o, none⟩ = some (.int .u64 y)) :
    Calls Try.prog 20 #[.pointer (some ⟨b, o, none⟩)] w fun e w' => e = .returned (.int .u64 y) ∧ w' = w := by
  have hd := run_call_load (P := Try.prog) (f := 25) Try.func25 (by kernel_rfl) (by kernel_rfl) (by kernel_rfl) .u64 (by kernel_rfl) hc
  go_enter Try.func20, Try.ntmps20
  go_wp2
  go_ret
  exact ⟨rfl, rfl⟩
end Go.Proofs.Qxb6618818a
