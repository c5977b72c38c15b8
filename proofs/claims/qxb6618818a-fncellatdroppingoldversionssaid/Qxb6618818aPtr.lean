/-
  sync/atomic's Pointer over a version: Store (function 22), Load (function 27).
-/
import Derived.Test.Qxb6618818aReads
import Derived.Deep.OwnRows
namespace Go.Proofs.Qxb6618818a
open Go.RowKit

theorem size88 : (Try.prog.info? 88).map (·.size) = some 4 := by kernel_rfl
theorem sized88 : (Try.prog.info? 88).map (fun i => decide (i.size = 0)) = some false := by kernel_rfl
theorem cells88 : Try.prog.cellsOf 88 = 4 := by kernel_rfl
theorem lies88 : liesAt Try.prog Try.prog.depth 88 1 0 88 1 = true := by kernel_rfl

/-- A pointer to a version: nil, or a whole block of four cells of that type. -/
def Vptr (w : World) (p : Option Addr) : Prop := ∀ x, p = some x → ∃ b C, x = ⟨b, 0, none⟩ ∧ w.heap[b]? = some (.cells C 88 (0, 0)) ∧ C.size = 4

theorem conv_from (p : Option Addr) (w : World) (h : Vptr w p) : (convert 50 77 (.pointer p)).run Try.prog w = .ok (.pointer p) w := by
  cases p with
  | none => simp [convert, Conv.unsafePointer, run_underlying Try.underlying50, run_underlying Try.underlying77, Result.andThen]
  | some x =>
    obtain ⟨b, C, rfl, h, hC⟩ := h x rfl
    obtain ⟨i, hi, hz0⟩ := Option.map_eq_some_iff.1 size88
    have hz : i.size = 4 := hz0
    have hsh : w.shape? b = some (88, 4) := by simp [World.shape?, h, hC]
    simp [convert, Conv.unsafePointer, Conv.seenAt, viewAt, variablesAt, sizeOf, typeInfo, run_underlying Try.underlying50, run_underlying Try.underlying77, hi, hz, hsh, Result.andThen, cells88, lies88]

theorem conv_to (p : Option Addr) (w : World) (h : Vptr w p) : (convert 77 50 (.pointer p)).run Try.prog w = .ok (.pointer p) w := by
  cases p with
  | none => simp [convert, Conv.unsafePointer, run_underlying Try.underlying50, run_underlying Try.underlying77, Result.andThen]
  | some x =>
    obtain ⟨b, C, rfl, h, hC⟩ := h x rfl
    have hc : w.cell? ⟨b, 0, none⟩ = some C[0] := by simp [World.cell?, h]
    exact run_convert_to_unsafe Try.underlying77 Try.underlying50 sized88 hc

theorem run_store_ptr {P : Program} {f : FuncId} {fn : Func} (hf : P.funcs[f]? = some fn) (hname : (fn.name == "runtime.NumGoroutine") = false) (hb : fn.body.isNone = true) (hn : Extern.findNext fn = none)
    (he : Extern.find fn = some Extern.Atomic.storeT) {a : Addr} {p : Option Addr} {u : Value} {w : World} (hc : w.cell? a = some u) (hz : w.frozen? a = false) :
    (callFunc f #[.pointer (some a), .pointer p]).run P w = .ok (.value (.tuple #[])) (w.setCell a (.pointer p)) := by
  rw [run_callFunc_extern hf hname hb hn he]
  change (Sem.run P (do
    store (← asAddr (.pointer (some a))) (.pointer p) .atomic
    pure Extern.Atomic.none_) w).andThen _ = _
  simp [asAddr, hc, hz, run_store P w a (.pointer p) .atomic rfl, Result.andThen, Extern.Atomic.none_]

theorem run_load_ptr {P : Program} {f : FuncId} {fn : Func} (hf : P.funcs[f]? = some fn) (hname : (fn.name == "runtime.NumGoroutine") = false) (hb : fn.body.isNone = true) (hn : Extern.findNext fn = none)
    (he : Extern.find fn = some (Extern.Atomic.loadT .ptr)) {a : Addr} {p : Option Addr} {w : World} (hc : w.cell? a = some (.pointer p)) :
    (callFunc f #[.pointer (some a)]).run P w = .ok (.value (.pointer p)) w := by
  rw [run_callFunc_extern hf hname hb hn he]
  change (Sem.run P (do Extern.Atomic.read .ptr (← asAddr (.pointer (some a)))) w).andThen _ = _
  simp [Extern.Atomic.read, asAddr, hc, Result.andThen]

theorem pstore_any (b o : Nat) (p : Option Addr) (u : Value) (w : World) (hc : w.cell? ⟨b, o, none⟩ = some u) (hz : w.frozen? ⟨b, o, none⟩ = false) (hp : Vptr w p) :
    Calls Try.prog 22 #[.pointer (some ⟨b, o, none⟩), .pointer p] w fun e w' => e = .returned (.tuple #[]) ∧ w' = w.setCell ⟨b, o, none⟩ (.pointer p) := by
  have hd := run_store_ptr (P := Try.prog) (f := 26) Try.func26 (by kernel_rfl) (by kernel_rfl) (by kernel_rfl) (by kernel_rfl) (p := p) hc hz
  have hv := conv_to p w hp
  clear hp hc hz
  go_enter Try.func22, Try.ntmps22
  go_wp2
  go_end0
  exact ⟨rfl, rfl⟩

theorem pload_any (b o : Nat) (p : Option Addr) (w : World) (hc : w.cell? ⟨b, o, none⟩ = some (.pointer p)) (hp : Vptr w p) :
    Calls Try.prog 27 #[.pointer (some ⟨b, o, none⟩)] w fun e w' => e = .returned (.pointer p) ∧ w' = w := by
  have hd := run_load_ptr (P := Try.prog) (f := 28) Try.func28 (by kernel_rfl) (by kernel_rfl) (by kernel_rfl) (by kernel_rfl) hc
  have hv := conv_from p w hp
  clear hp hc
  go_enter Try.func27, Try.ntmps27
  go_wp2
  go_ret
  exact ⟨rfl, rfl⟩
end Go.Proofs.Qxb6618818a
