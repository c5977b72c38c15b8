/-
  A fresh store, its clock, and the runs that BeginAhead starts: functions 18, 6, 7, 8, 21, 9, each by a contract.
-/
import Derived.Test.Qxb6618818aAtom
import Derived.Deep.QuietTactic
import Derived.BigQuiet
import Derived.LaidEqlPtr
namespace Go.Proofs.Qxb6618818a
open Go.RowKit
set_option maxHeartbeats 1000000 in
theorem view (tb : Nat) (S : Addr) (c : Int) (w : World)
    (h0 : w.cell? ⟨tb, 0, none⟩ = some (.pointer (some S))) (h1 : w.cell? ⟨tb, 1, none⟩ = some (.int .u64 c))
    (h2 : w.cell? ⟨tb, 2, none⟩ = some (.slice none 0 0)) (h3 : w.cell? ⟨tb, 3, none⟩ = some (.slice none 0 0))
    (h4 : w.cell? ⟨tb, 4, none⟩ = some (.map none)) (h5 : w.cell? ⟨tb, 5, none⟩ = some (.pointer none))
    (h6 : w.cell? ⟨tb, 6, none⟩ = some (.bool true)) (h7 : w.cell? ⟨tb, 7, none⟩ = some (.pointer none)) :
    Calls Try.prog 21 #[.pointer (some ⟨tb, 0, none⟩)] w fun e w' =>
      e = .returned (.tuple #[.pointer (some S), .int .u64 c, .bool true, .int .i64 0, .int .i64 0, .bool false, .bool false, .bool false]) ∧ ∃ n, w' = w.drewN n := by
  have hm : ∀ (w : World) (r : Option Nat), (binOp .neq 71 (.map r) (.map none)).run Try.prog w = .ok (.bool (!r.isNone)) w := fun w r => run_neq_map_nil _ 71 _ _ r Try.underlying71
  go_enter Try.func21, Try.ntmps21
  go_wp2
  go_quiet (fail)
  go_wp2
  refine bodyPost_ret (v := .tuple #[.pointer (some S), .int .u64 c, .bool true, .int .i64 0, .int .i64 0, .bool false, .bool false, .bool false]) (by simp [results, Try.results21, go_sem]) rfl ?_
  exact ⟨rfl, nq, rfl⟩
theorem size66 : (Try.prog.info? 66).map (·.size) = some 19 := by kernel_rfl
theorem size74 : (Try.prog.info? 74).map (·.size) = some 8 := by kernel_rfl
theorem info66 : ∃ j, Try.prog.info? 66 = some j ∧ j.size ≠ 0 := by
  obtain ⟨j, hj, hs⟩ := Option.map_eq_some_iff.1 size66
  exact ⟨j, hj, by omega⟩
theorem info74 : ∃ j, Try.prog.info? 74 = some j ∧ j.size ≠ 0 := by
  obtain ⟨j, hj, hs⟩ := Option.map_eq_some_iff.1 size74
  exact ⟨j, hj, by omega⟩
theorem eql23_same (a : Addr) (w : World) : (binOp .eql 23 (.pointer (some a)) (.pointer (some a))).run Try.prog w = .ok (.bool true) w := by
  obtain ⟨j, hj, _⟩ := info66
  exact run_eql_ptr_same w a Try.underlying23 hj
theorem eql25_other {a b : Addr} {ca cb : Array Value} {ta tb : TypeId} (w : World) (hne : a ≠ b) (ha : w.heap[a.block]? = some (.cells ca ta (0, 0))) (hb : w.heap[b.block]? = some (.cells cb tb (0, 0))) :
    (binOp .eql 25 (.pointer (some a)) (.pointer (some b))).run Try.prog w = .ok (.bool false) w := by
  obtain ⟨j, hj, hs⟩ := info74
  exact run_eql_ptr_other w Try.underlying25 hj hs hne ha hb

set_option maxRecDepth 100000 in
set_option maxHeartbeats 1000000 in
theorem fresh_yes (tb : Nat) (sb : Nat) (c : Int) (w : World)
    (h0 : w.cell? ⟨tb, 0, none⟩ = some (.pointer (some ⟨sb, 0, none⟩))) (h1 : w.cell? ⟨tb, 1, none⟩ = some (.int .u64 c))
    (h2 : w.cell? ⟨tb, 2, none⟩ = some (.slice none 0 0)) (h3 : w.cell? ⟨tb, 3, none⟩ = some (.slice none 0 0))
    (h4 : w.cell? ⟨tb, 4, none⟩ = some (.map none)) (h5 : w.cell? ⟨tb, 5, none⟩ = some (.pointer none))
    (h6 : w.cell? ⟨tb, 6, none⟩ = some (.bool true)) (h7 : w.cell? ⟨tb, 7, none⟩ = some (.pointer none)) :
    Calls Try.prog 9 #[.pointer (some ⟨sb, 0, none⟩), .pointer (some ⟨tb, 0, none⟩), .int .u64 c] w fun e w' => e = .returned (.bool true) ∧ ∃ n, w' = w.drewN n := by
  go_enter Try.func9, Try.ntmps9
  go_wp2_with fail
  refine (view tb ⟨sb, 0, none⟩ c w h0 h1 h2 h3 h4 h5 h6 h7).mono ?_
  rintro e w' ⟨rfl, nq, rfl⟩
  clear h0 h1 h2 h3 h4 h5 h6 h7
  have he := eql23_same
  go_wp2
  go_ret
  exact ⟨rfl, nq, rfl⟩


set_option maxHeartbeats 1000000 in
theorem newStoreAt (c : Int) (w : World) :
    Calls Try.prog 6 #[.int .u64 c] w fun e w' => e = .returned (.pointer (some ⟨w.heap.size + 1, 0, none⟩)) ∧
      (w'.cell? ⟨w.heap.size + 1, 12, none⟩ = some (.int .u64 c) ∧ w'.frozen? ⟨w.heap.size + 1, 12, none⟩ = false ∧ w'.heap.size = w.heap.size + 2) ∧ Grown w w' := by
  have hmm := @run_makeMap Try.prog
  go_enter Try.func6, Try.ntmps6
  go_wp2_with (first | (go_at_call 18; go_in) | (go_at_call 19; refine (store_any _ _ _ (.int .u64 0) _ ?_ ?_).mono ?_; simp; simp; rintro e w' ⟨rfl, rfl⟩))
  go_ret
  exact ⟨rfl, ⟨by simp, by simp, by simp⟩, ((Grown.refl _).allocMap _ _).alloc _ _⟩
set_option maxHeartbeats 1000000 in
theorem beginAhead (sb : Nat) (c : Int) (w : World) (hc : w.cell? ⟨sb, 12, none⟩ = some (.int .u64 c)) :
    Calls Try.prog 7 #[.pointer (some ⟨sb, 0, none⟩)] w fun e w' => e = .returned (.pointer (some ⟨w.heap.size, 0, none⟩)) ∧
      w' = w.alloc (.cells #[.pointer (some ⟨sb, 0, none⟩), .int .u64 c, .slice none 0 0, .slice none 0 0, .map none, .pointer none, .bool true, .pointer none] 74) := by
  go_enter Try.func7, Try.ntmps7
  go_wp2_with (go_at_call 20; refine (load_any _ _ _ _ hc).mono ?_; rintro e w' ⟨rfl, rfl⟩)
  go_ret
  exact ⟨rfl, rfl⟩
set_option maxHeartbeats 1000000 in
theorem setClock (sb : Nat) (c c' : Int) (w : World) (hc : w.cell? ⟨sb, 12, none⟩ = some (.int .u64 c)) (hz : w.frozen? ⟨sb, 12, none⟩ = false) :
    Calls Try.prog 8 #[.pointer (some ⟨sb, 0, none⟩), .int .u64 c'] w fun e w' => e = .returned (.tuple #[]) ∧ w' = w.setCell ⟨sb, 12, none⟩ (.int .u64 c') := by
  go_enter Try.func8, Try.ntmps8
  go_wp2_with (go_at_call 19; refine (store_any _ _ _ _ _ hc hz).mono ?_; rintro e w' ⟨rfl, rfl⟩)
  go_end0
  exact ⟨rfl, rfl⟩


theorem cell_of_heap {w : World} {b : Nat} {C : Array Value} {t : TypeId} {fr : Nat × Nat} (h : w.heap[b]? = some (.cells C t fr)) (i : Nat) : w.cell? ⟨b, i, none⟩ = C[i]? := by
  simp [World.cell?, h]

def txnAt (w : World) (tb sb : Nat) (c : Int) : Prop :=
  w.heap[tb]? = some (.cells #[.pointer (some ⟨sb, 0, none⟩), .int .u64 c, .slice none 0 0, .slice none 0 0, .map none, .pointer none, .bool true, .pointer none] 74 (0, 0))

theorem fresh_at (tb sb : Nat) (c : Int) (w : World) (h : txnAt w tb sb c) :
    Calls Try.prog 9 #[.pointer (some ⟨sb, 0, none⟩), .pointer (some ⟨tb, 0, none⟩), .int .u64 c] w fun e w' => e = .returned (.bool true) ∧ ∃ n, w' = w.drewN n :=
  fresh_yes tb sb c w (by rw [cell_of_heap h]; rfl) (by rw [cell_of_heap h]; rfl) (by rw [cell_of_heap h]; rfl) (by rw [cell_of_heap h]; rfl) (by rw [cell_of_heap h]; rfl) (by rw [cell_of_heap h]; rfl) (by rw [cell_of_heap h]; rfl) (by rw [cell_of_heap h]; rfl)

theorem grown_drewN {W w' : World} (h : Grown W w') : ∀ n : Nat, Grown W (w'.drewN n)
  | 0 => h
  | n + 1 => grown_drewN (w' := w'.drew) h.drew n

theorem heap_drewN (w : World) (n : Nat) : (w.drewN n).heap = w.heap := by
  induction n generalizing w with
  | zero => rfl
  | succ n ih => exact ih w.drew

end Go.Proofs.Qxb6618818a
