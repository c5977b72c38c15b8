/-
  Small facts on worlds, blocks and rows, for this seat's walks.
-/
import Derived.Test.Qxb6618191aRows
import Derived.WalkKit
import Derived.WalkLawsBesides
import Derived.WalkSpells
import Derived.Deep.QuietTactic
import Derived.BigQuiet
import Derived.Deep.OwnRows
import Derived.Deep.LoopGhost
import Derived.Lib.SliceRun
import Derived.LaidEqlPtr
import Derived.OpenShut
import Derived.ArgAppend
import Derived.Laws.CopyOwn
import Derived.Deep.CutBlock
import Derived.Deep.RegionLaw
import Derived.RegionTactic
namespace Go.Proofs.Qxb6618191a
open Go.RowKit

theorem lt_of_heap {w : World} {b : Nat} {o : Obj} (h : w.heap[b]? = some o) : b < w.heap.size := (Array.getElem?_eq_some_iff.1 h).1

theorem lt_of_cell {w : World} {b o : Nat} {v : Value} (h : w.cell? ⟨b, o, none⟩ = some v) : b < w.heap.size := by
  unfold World.cell? at h
  by_cases hb : b < w.heap.size
  · exact hb
  · rw [Array.getElem?_eq_none (by simpa using hb)] at h; cases h

theorem cell_of_heap {w : World} {b : Nat} {C : Array Value} {t : TypeId} {fr : Nat × Nat} (h : w.heap[b]? = some (.cells C t fr)) (i : Nat) : w.cell? ⟨b, i, none⟩ = C[i]? := by
  simp [World.cell?, h]

theorem frozen_of_heap {w : World} {b : Nat} {C : Array Value} {t : TypeId} (h : w.heap[b]? = some (.cells C t (0, 0))) (i : Nat) : w.frozen? ⟨b, i, none⟩ = false := by
  simp [World.frozen?, h]

theorem heap_set_at {w : World} {b : Nat} {C : Array Value} {t : TypeId} {fr : Nat × Nat} (h : w.heap[b]? = some (.cells C t fr)) (i : Nat) (v : Value) :
    (w.setCell ⟨b, i, none⟩ v).heap[b]? = some (.cells (C.setIfInBounds i v) t fr) := by
  simp [World.setCell, Array.getElem?_modify, h]

theorem heap_set_other (w : World) (a : Addr) (v : Value) (k : Nat) (h : k ≠ a.block) : (w.setCell a v).heap[k]? = w.heap[k]? := Below.heap_setCell w a v k h

theorem heap_drewN (w : World) (n : Nat) : (w.drewN n).heap = w.heap := rfl

theorem below_draw {B : Nat} {a w : World} (h : Below B a w) (n : Nat) : Below B a (w.drewN n) := ⟨h.os, h.tape, h.output, h.size, h.block⟩

/-- The cells of a slice of int: it is empty, or its elements lie in a row. -/
def Row (w : World) (a : Option Addr) (l : List Int) : Prop :=
  l = [] ∨ ∃ b off, a = some ⟨b, off, none⟩ ∧ ∀ i, i < l.length → w.cell? ⟨b, off + i, none⟩ = some (.int .i64 (l[i]?.getD 0))

theorem Row.at {w : World} {a : Option Addr} {l : List Int} {n : Nat} (hl : l.length = n) (hr : Row w a l) {k : Nat} (hk : k < n) :
    ∃ b off, a = some ⟨b, off, none⟩ ∧ w.cell? ⟨b, off + k, none⟩ = some (.int .i64 (l[k]?.getD 0)) := by
  rcases hr with rfl | ⟨b, off, h1, hc⟩
  · simp at hl; omega
  · exact ⟨b, off, h1, hc k (by omega)⟩

theorem Row.below {w w' : World} {a : Option Addr} {l : List Int} (hb : Below w.heap.size w w') (h : Row w a l) : Row w' a l := by
  rcases h with h | ⟨b, off, ha, hc⟩
  · exact .inl h
  · exact .inr ⟨b, off, ha, fun i hi => by rw [hb.cell (p := ⟨b, off + i, none⟩) (lt_of_cell (hc i hi))]; exact hc i hi⟩

theorem row_of {w : World} {a : Option Addr} {len cap : Nat} {zs : List Int}
    (h : (a = none ∧ len = 0 ∧ cap = 0 ∧ zs = []) ∨ ∃ x, a = some x ∧ len ≤ cap ∧ cap ≤ maxLen ∧ zs.length = cap ∧ (∀ i, i < zs.length → w.cell? (x.add i) = some (.int .i64 (zs.getD i 0))) ∧ ∀ n ∈ zs, (Lit.int .i64 n).wf = true) :
    (zs.take len).length = len ∧ (a = none → len = 0) ∧ Row w a (zs.take len) ∧ ∀ s ∈ zs.take len, -9223372036854775808 ≤ s ∧ s ≤ 9223372036854775807 := by
  rcases h with ⟨rfl, rfl, rfl, rfl⟩ | ⟨x, rfl, hl, hm, hz, hc, hw⟩
  · exact ⟨rfl, fun _ => rfl, .inl rfl, fun s hs => by cases hs⟩
  · have hlen : (zs.take len).length = len := by rw [List.length_take]; omega
    refine ⟨hlen, fun h => (by cases h), ?_, fun s hs => bounds_i64 (hw s (List.mem_of_mem_take hs))⟩
    by_cases h0 : len = 0
    · exact .inl (by rw [h0]; rfl)
    · obtain ⟨b, off, rfl, hc'⟩ := ints_at hc (by omega)
      refine .inr ⟨b, off, rfl, fun i hi => ?_⟩
      have hi' : i < len := by omega
      rw [hc' i (by omega), List.getElem?_take, if_pos hi', List.getD_eq_getElem?_getD]

theorem add_lit (b o j : Nat) : (⟨b, o, none⟩ : Addr).add j = ⟨b, o + j, none⟩ := by unfold Addr.add; split <;> simp_all

theorem getElem?_lt {C : Array Value} {j : Nat} (h : j < C.size) : ∃ u, C[j]? = some u := ⟨C[j], Array.getElem?_eq_getElem h⟩

theorem owns_mono {w : World} {base base' : Nat} {e : TypeId} {size : Nat} {v : Value} {n : Nat} {xs : List Value} (h : w.ownsRow base e size v n xs) (hb : base' ≤ base) : w.ownsRow base' e size v n xs := by
  obtain ⟨h1, h2⟩ := h
  refine ⟨h1, ?_⟩
  rcases h2 with h2 | ⟨g, cap, cur, hv, hg, r⟩
  · exact .inl h2
  · exact .inr ⟨g, cap, cur, hv, by omega, r⟩

theorem owns_keep {w w' : World} {base : Nat} {e : TypeId} {size : Nat} {v : Value} {n : Nat} {xs : List Value} (h : w.ownsRow base e size v n xs) (hk : ∀ (b : Nat) (C : Array Value), w.heap[b]? = some (.cells C e (0, 0)) → w'.heap[b]? = some (.cells C e (0, 0))) : w'.ownsRow base e size v n xs := by
  obtain ⟨h1, h2⟩ := h
  refine ⟨h1, ?_⟩
  rcases h2 with h2 | ⟨g, cap, cur, hv, hg, hh, r⟩
  · exact .inl h2
  · exact .inr ⟨g, cap, cur, hv, hg, hk g cur hh, r⟩

theorem owns_below {w w' : World} {base : Nat} {e : TypeId} {size : Nat} {v : Value} {n : Nat} {xs : List Value} (hb : Below w.heap.size w w') (h : w.ownsRow base e size v n xs) : w'.ownsRow base e size v n xs :=
  owns_keep h (fun b C hC => by rw [hb.block b (lt_of_heap hC)]; exact hC)

theorem owns_draw {w : World} {base : Nat} {e : TypeId} {size : Nat} {v : Value} {n : Nat} {xs : List Value} (q : Nat) (h : w.ownsRow base e size v n xs) : (w.drewN q).ownsRow base e size v n xs := h

theorem owns_slice {w : World} {base : Nat} {e : TypeId} {size : Nat} {v : Value} {n : Nat} {xs : List Value} (h : w.ownsRow base e size v n xs) : ∃ a cap, v = .slice a n cap := by
  rcases h.2 with ⟨h, h0⟩ | ⟨g, cap, cur, h, _⟩
  · exact ⟨none, 0, by rw [h, h0]⟩
  · exact ⟨_, cap, h⟩

/-- A cell of an owned row. -/
theorem owns_at {w : World} {base : Nat} {e : TypeId} {size n : Nat} {a : Option Addr} {cap : Nat} {xs : List Value} (h : w.ownsRow base e size (.slice a n cap) n xs) (hn : 0 < n) :
    ∃ g, a = some ⟨g, 0, none⟩ ∧ base ≤ g ∧ g < w.heap.size ∧ (∀ j, j < n * size → w.cell? ⟨g, j, none⟩ = xs[j]?) ∧ ∀ j, w.frozen? ⟨g, j, none⟩ = false := by
  rcases h.2 with ⟨_, h0⟩ | ⟨g, cap', cur, hv, hg, hh, _⟩
  · omega
  · injection hv with hv1 _ hv3
    subst hv1
    exact ⟨g, rfl, hg, lt_of_heap hh, fun j hj => h.cellAt j hj, fun j => h.frozenAt j⟩

theorem info3 : (Try.prog.info? 3).map (fun i => (i.zero, i.size, i.bytes)) = some (some (.int .i64 0), 1, 8) := by kernel_rfl
theorem size3 : (Try.prog.info? 3).map (·.size) = some 1 := by kernel_rfl

/-- 'zzc := make([]int, len(xs)); copy(zzc, xs)': a row of its own with the same numbers. -/
theorem copied (w : World) (x : Addr) (n c : Nat) (l : List Int) (ty : TypeId) (hl : l.length = n) (hr : Row w (some x) l) :
    ∃ w', (Builtin.copy_ #[22, 22] ty #[.slice (some ⟨w.heap.size, 0, none⟩) n n, .slice (some x) n c]).run Try.prog (w.alloc (.cells (madeCells #[.int .i64 0] n) 3)) = .ok (.int .i64 n) w' ∧
      Row w' (some ⟨w.heap.size, 0, none⟩) l ∧ Below w.heap.size w w' := by
  have hb0 : Below w.heap.size w (w.alloc (.cells (madeCells #[.int .i64 0] n) 3)) := (Below.refl _ _).alloc (Nat.le_refl _) _
  by_cases hn : n = 0
  · subst hn
    exact ⟨_, run_copy_none (P := Try.prog) _ 22 22 ty 3 _ _ 0 0 0 c Try.underlying22 size3 rfl, .inl (List.eq_nil_of_length_eq_zero hl), hb0⟩
  · have hcl : (l.map (Value.int .i64)).length = n := by simpa using hl
    have hr2 := hr.below hb0
    rcases hr2 with rfl | ⟨b, off, hx, hc⟩
    · simp at hl; omega
    · injection hx with hx
      subst hx
      have hg := heap_alloc_new w (.cells (madeCells #[.int .i64 0] n) 3)
      have hrun := run_copy_row (P := Try.prog) (w.alloc (.cells (madeCells #[.int .i64 0] n) 3)) 22 22 ty 3 w.heap.size 0 n n ⟨b, off, none⟩ n c _ 3 (l.map (Value.int .i64)) Try.underlying22 size3 hg (by rw [hcl]; exact (Nat.min_self n).symm)
        (fun j v hj => by
          have hj2 : j < l.length := by
            have := (List.getElem?_eq_some_iff.1 hj).1
            simpa using this
          rw [add_lit, hc j hj2]
          rw [List.getElem?_map, List.getElem?_eq_getElem hj2] at hj
          rw [List.getElem?_eq_getElem hj2]
          simpa using hj) (by rw [hcl, size_madeCells]; omega) (fun v hv => by obtain ⟨y, _, rfl⟩ := List.mem_map.1 hv; rfl)
      rw [hcl] at hrun
      refine ⟨_, hrun, .inr ⟨w.heap.size, 0, rfl, fun i hi => ?_⟩, below_setRow hb0 (Nat.le_refl _) _⟩
      rw [cell_setRow_same _ _ _ _ _ _ _ hg, Nat.zero_add]
      simp only [List.take_zero, List.nil_append, List.getElem?_toArray]
      rw [List.getElem?_append_left (by simpa using hi)]
      simp [hi]


/-- Runs as cells. -/
def rcells : List (Int × Int) → List Value
  | [] => []
  | x :: r => .int .i64 x.1 :: .int .i64 x.2 :: rcells r
theorem rcells_append (a b : List (Int × Int)) : rcells (a ++ b) = rcells a ++ rcells b := by
  induction a with
  | nil => rfl
  | cons x r ih => simp [rcells, ih]
theorem rcells_length (a : List (Int × Int)) : (rcells a).length = a.length * 2 := by
  induction a with
  | nil => rfl
  | cons x r ih => simp [rcells, ih]; omega
theorem rcells_at : ∀ {rs : List (Int × Int)} {i : Nat} {x : Int × Int}, rs[i]? = some x → (rcells rs)[i * 2]? = some (.int .i64 x.1) ∧ (rcells rs)[i * 2 + 1]? = some (.int .i64 x.2)
  | [], _, _, h => by simp at h
  | y :: r, 0, x, h => by simp at h; subst h; exact ⟨rfl, rfl⟩
  | y :: r, i + 1, x, h => by
    have := rcells_at (rs := r) (i := i) (x := x) (by simpa using h)
    rw [show (i + 1) * 2 = i * 2 + 2 by omega]
    exact ⟨by simpa [rcells] using this.1, by simpa [rcells] using this.2⟩
end Go.Proofs.Qxb6618191a
