/-
  Small facts on worlds, blocks and rows, for this seat's walks.
-/
import Derived.Test.Qxb6618173aRows
import Derived.WalkKit
import Derived.WalkLawsBesides
import Derived.WalkSpells
import Derived.Deep.QuietTactic
import Derived.BigQuiet
import Derived.Deep.OwnRows
import Derived.Deep.LoopGhost
import Derived.Lib.SliceRun
import Derived.LaidEqlPtr
import Derived.OpenShut
namespace Go.Proofs.Qxb6618173a
open Go.RowKit

theorem lt_of_heap {w : World} {b : Nat} {o : Obj} (h : w.heap[b]? = some o) : b < w.heap.size := (Array.getElem?_eq_some_iff.1 h).1

theorem lt_of_cell {w : World} {b o : Nat} {v : Value} (h : w.cell? ⟨b, o, none⟩ = some v) : b < w.heap.size := by
  unfold World.cell? at h
  by_cases hb : b < w.heap.size
  · exact hb
  · rw [Array.getElem?_eq_none (by simpa using hb)] at h; cases h

theorem cell_of_heap {w : World} {b : Nat} {C : Array Value} {t : TypeId} {fr : Nat × Nat} (h : w.heap[b]? = some (.cells C t fr)) (i : Nat) : w.cell? ⟨b, i, none⟩ = C[i]? := by
  simp [World.cell?, h]

theorem frozen_of_heap {w : World} {b : Nat} {C : Array Value} {t : TypeId} (h : w.heap[b]? = some (.cells C t (0, 0))) (i : Nat) : w.frozen? ⟨b, i, none⟩ = false := by
  simp [World.frozen?, h]

theorem heap_set_at {w : World} {b : Nat} {C : Array Value} {t : TypeId} {fr : Nat × Nat} (h : w.heap[b]? = some (.cells C t fr)) (i : Nat) (v : Value) :
    (w.setCell ⟨b, i, none⟩ v).heap[b]? = some (.cells (C.setIfInBounds i v) t fr) := by
  simp [World.setCell, Array.getElem?_modify, h]

theorem heap_set_other (w : World) (a : Addr) (v : Value) (k : Nat) (h : k ≠ a.block) : (w.setCell a v).heap[k]? = w.heap[k]? := Below.heap_setCell w a v k h

theorem heap_drewN (w : World) (n : Nat) : (w.drewN n).heap = w.heap := rfl

theorem below_draw {B : Nat} {a w : World} (h : Below B a w) (n : Nat) : Below B a (w.drewN n) := ⟨h.os, h.tape, h.output, h.size, h.block⟩

/-- The cells of a slice of int: it is empty, or its elements lie in a row. -/
def Row (w : World) (a : Option Addr) (l : List Int) : Prop :=
  l = [] ∨ ∃ b off, a = some ⟨b, off, none⟩ ∧ ∀ i, i < l.length → w.cell? ⟨b, off + i, none⟩ = some (.int .i64 (l[i]?.getD 0))

theorem Row.at {w : World} {a : Option Addr} {l : List Int} {n : Nat} (hl : l.length = n) (hr : Row w a l) {k : Nat} (hk : k < n) :
    ∃ b off, a = some ⟨b, off, none⟩ ∧ w.cell? ⟨b, off + k, none⟩ = some (.int .i64 (l[k]?.getD 0)) := by
  rcases hr with rfl | ⟨b, off, h1, hc⟩
  · simp at hl; omega
  · exact ⟨b, off, h1, hc k (by omega)⟩

theorem Row.below {w w' : World} {a : Option Addr} {l : List Int} (hb : Below w.heap.size w w') (h : Row w a l) : Row w' a l := by
  rcases h with h | ⟨b, off, ha, hc⟩
  · exact .inl h
  · exact .inr ⟨b, off, ha, fun i hi => by rw [hb.cell (p := ⟨b, off + i, none⟩) (lt_of_cell (hc i hi))]; exact hc i hi⟩

theorem row_of {w : World} {a : Option Addr} {len cap : Nat} {zs : List Int}
    (h : (a = none ∧ len = 0 ∧ cap = 0 ∧ zs = []) ∨ ∃ x, a = some x ∧ len ≤ cap ∧ cap ≤ maxLen ∧ zs.length = cap ∧ (∀ i, i < zs.length → w.cell? (x.add i) = some (.int .i64 (zs.getD i 0))) ∧ ∀ n ∈ zs, (Lit.int .i64 n).wf = true) :
    (zs.take len).length = len ∧ (a = none → len = 0) ∧ Row w a (zs.take len) ∧ ∀ s ∈ zs.take len, -9223372036854775808 ≤ s ∧ s ≤ 9223372036854775807 := by
  rcases h with ⟨rfl, rfl, rfl, rfl⟩ | ⟨x, rfl, hl, hm, hz, hc, hw⟩
  · exact ⟨rfl, fun _ => rfl, .inl rfl, fun s hs => by cases hs⟩
  · have hlen : (zs.take len).length = len := by rw [List.length_take]; omega
    refine ⟨hlen, fun h => (by cases h), ?_, fun s hs => bounds_i64 (hw s (List.mem_of_mem_take hs))⟩
    by_cases h0 : len = 0
    · exact .inl (by rw [h0]; rfl)
    · obtain ⟨b, off, rfl, hc'⟩ := ints_at hc (by omega)
      refine .inr ⟨b, off, rfl, fun i hi => ?_⟩
      have hi' : i < len := by omega
      rw [hc' i (by omega), List.getElem?_take, if_pos hi', List.getD_eq_getElem?_getD]
end Go.Proofs.Qxb6618173a
