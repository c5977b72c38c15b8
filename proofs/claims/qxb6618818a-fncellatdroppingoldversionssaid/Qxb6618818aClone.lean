/-
  cloneU64 (function 12): a row of its own with the same numbers.
-/
import Derived.Test.Qxb6618818aReads
import Derived.Deep.OwnRows
import Derived.Lib.SliceRun
namespace Go.Proofs.Qxb6618818a
open Go.RowKit

theorem info22 : (Try.prog.info? 22).map (fun i => (i.zero, i.size, i.bytes)) = some (some (.int .u64 0), 1, 8) := by kernel_rfl

theorem lt_of_cell {w : World} {b o : Nat} {v : Value} (h : w.cell? ⟨b, o, none⟩ = some v) : b < w.heap.size := by
  unfold World.cell? at h
  by_cases hb : b < w.heap.size
  · exact hb
  · rw [Array.getElem?_eq_none (by simpa using hb)] at h; cases h

def half (l : List Int) (k i : Nat) : Value := if i < k then .int .u64 (l[i]?.getD 0) else .int .u64 0

theorem row_of_rowIs {w : World} {b n : Nat} {l : List Int} (hl : l.length = n) (h : w.rowIs b 22 n (half l n)) : Row w (some ⟨b, 0, none⟩) l :=
  .inr ⟨b, 0, rfl, fun i hi => by
    have := h.cell (i := i) (by omega)
    rw [Nat.zero_add, this, half, if_pos (by omega)]⟩

set_option maxHeartbeats 1000000 in
theorem clone_any (a : Option Addr) (n cap : Nat) (l : List Int) (w : World) (hl : l.length = n) (hn : n ≤ 65536) (ha : a = none → n = 0) (hr : Row w a l) :
    Calls Try.prog 12 #[.slice a n cap] w fun e w' => ∃ a', e = .returned (.slice a' n n) ∧ (a' = none → n = 0) ∧ Row w' a' l ∧ Below w.heap.size w w' := by
  have hnil : ∀ (w : World) (a : Option Addr) (n c n' c' : Nat), (binOp .eql 30 (.slice a n c) (.slice none n' c')).run Try.prog w = .ok (.bool a.isNone) w := fun w a n c n' c' => Lib.run_eql_slice_nil w 30 22 a n c n' c' Try.underlying30
  have hmk := run_make_row' (P := Try.prog) 30 22 (.int .u64 0) 8 Try.underlying30 info22 rfl .i64 .i64 n (by omega) (by omega)
  cases a with
  | none =>
    have hn0 := ha rfl
    subst hn0
    clear ha
    go_enter Try.func12, Try.ntmps12
    go_wp2
    go_ret
    exact ⟨none, rfl, (by simp), .inl (List.length_eq_zero_iff.1 hl), Below.refl _ _⟩
  | some x =>
    clear ha
    have HL : Hid (l.length = n) := hl
    have hx : ∀ k, k < n → ∃ b off, x = ⟨b, off, none⟩ ∧ b < w.heap.size ∧ w.cell? ⟨b, off + k, none⟩ = some (.int .u64 (l[k]?.getD 0)) := by
      intro k hk
      rcases hr with rfl | ⟨b, off, h1, hc⟩
      · simp at hl; omega
      · injection h1 with h1
        exact ⟨b, off, h1, lt_of_cell (hc k (by omega)), hc k (by omega)⟩
    have HX : Hid _ := hx
    clear hr hl hx
    go_enter Try.func12, Try.ntmps12
    go_wp2
    go_loopw [4] (fun i wr => ∃ k : Nat, k ≤ n ∧ i = .int .i64 k ∧ wr.rowIs w.heap.size 22 n (half l k) ∧ Below w.heap.size w wr) (fun i _ => n - (intOf i).toNat)
    case atStart => exact ⟨0, by omega, rfl, (World.rowIs_made w (.int .u64 0) n 22).congr (fun i _ => by simp [half]), (Below.refl _ _).alloc (Nat.le_refl _) _⟩
    case round =>
      obtain ⟨k, hkn, rfl, hrow, hbel⟩ := hrel
      have HR : Hid (wr.rowIs w.heap.size 22 n (half l k)) := hrow
      have HB : Hid (Below w.heap.size w wr) := hbel
      by_cases hlt : k < n
      · obtain ⟨b, off, rfl, hb, hc⟩ := HX.out k hlt
        have c1 := hbel.cell (p := ⟨b, off + k, none⟩) hb
        rw [hc] at c1
        have c2 := hrow.cell hlt
        rw [half, if_neg (by omega)] at c2
        have c3 := hrow.frozen k
        have b1 : (k : Int) < (n : Int) := by omega
        clear hrow hbel hc hnil hmk
        go_wp2
        go_roundw
        case rel => 
          refine ⟨k + 1, by omega, by go_num, (HR.out.set k _).congr (fun i hi => ?_), HB.out.setCell (Nat.le_refl _) _⟩
          simp only [half]
          by_cases e : i = k
          · subst e; simp
          · have : i < k + 1 ↔ i < k := by omega
            simp [e, this]
        case measure => simp [intOf]; omega
      · clear hrow hbel hnil hmk
        go_wp2
        go_ret
        have : k = n := by omega
        subst this
        exact ⟨_, rfl, fun h => (by cases h), row_of_rowIs HL.out HR.out, HB.out⟩
end Go.Proofs.Qxb6618818a
