/-
  zzMakeEvents (function 7): n events of their own, numbered from first on.
-/
import Derived.Test.Qxb6618173aBase
import Derived.RegionTactic
namespace Go.Proofs.Qxb6618173a
open Go.RowKit
theorem info29 : (Try.prog.info? 29).map (fun i => (i.zero, i.size, i.bytes)) = some (some (.pointer none), 1, 8) := by kernel_rfl
theorem info47 : (Try.prog.info? 47).map (fun i => (i.zero, i.size, i.bytes)) = some (some (.agg #[.pointer none, .int .i64 0]), 2, 16) := by kernel_rfl

/-- One event in memory. -/
def evObj (q : Int) : Obj := .cells #[.string ⟨#[]⟩, .int .u64 q, .slice none 0 0] 32 (0, 0)

/-- What zzMakeEvents lays: a row of n pointers at block b, the events behind it, numbered from first on. -/
def Evs (w : World) (b : Nat) (first : Int) (n : Nat) : Prop :=
  w.rowIs b 29 n (fun i => .pointer (some ⟨b + 1 + i, 0, none⟩)) ∧ ∀ i, i < n → w.heap[b + 1 + i]? = some (evObj (first + i))

def evTo (b k i : Nat) : Value := if i < k then .pointer (some ⟨b + 1 + i, 0, none⟩) else .pointer none

def EvsTo (w : World) (b : Nat) (first : Int) (n k : Nat) : Prop :=
  w.rowIs b 29 n (evTo b k) ∧ w.heap.size = b + 1 + k ∧ ∀ i, i < k → w.heap[b + 1 + i]? = some (evObj (first + i))

theorem EvsTo.step {wr : World} {b n k : Nat} {first : Int} (h : EvsTo wr b first n k) :
    EvsTo ((wr.setCell ⟨b, k, none⟩ (.pointer (some ⟨wr.heap.size, 0, none⟩))).alloc (.cells #[.string ⟨#[]⟩, .int .u64 (first + k), .slice none 0 0] 32)) b first n (k + 1) := by
  obtain ⟨h1, h2, h3⟩ := h
  refine ⟨((h1.set k _).alloc _).congr (fun i hi => ?_), by simp [h2]; omega, fun i hi => ?_⟩
  · simp only [evTo]
    by_cases e : i = k
    · subst e; simp [h2]
    · have : i < k + 1 ↔ i < k := by omega
      simp [e, this]
  · by_cases e : i = k
    · subst e
      rw [show b + 1 + i = (wr.setCell ⟨b, i, none⟩ (.pointer (some ⟨wr.heap.size, 0, none⟩))).heap.size from by simp [h2]]
      exact heap_alloc_new _ _
    · rw [heap_alloc_old _ _ (by simp [h2]; omega), heap_set_other _ _ _ _ (by simp; omega)]
      exact h3 i (by omega)

set_option maxHeartbeats 1000000 in
theorem mkEvents (first : Int) (n : Nat) (w : World) (h0 : 0 ≤ first) (h1 : first + n ≤ 18446744073709551615) (hn : n ≤ 65536) :
    Calls Try.prog 7 #[.int .u64 first, .int .i64 n] w fun e w' => e = .returned (.slice (some ⟨w.heap.size, 0, none⟩) n n) ∧ Evs w' w.heap.size first n ∧ Below w.heap.size w w' := by
  have hmk := run_make_row' (P := Try.prog) 24 29 (.pointer none) 8 Try.underlying24 info29 rfl .i64 .i64 n (by omega) (by omega)
  go_enter Try.func7, Try.ntmps7
  go_wp2
  go_loopw [6] (fun i wr => ∃ k : Nat, k ≤ n ∧ i = .int .i64 k ∧ EvsTo wr w.heap.size first n k ∧ Below w.heap.size w wr) (fun i _ => n - (intOf i).toNat)
  case atStart => exact ⟨0, by omega, rfl, ⟨(World.rowIs_made w (.pointer none) n 29).congr (fun i _ => by simp [evTo]), by simp, fun i hi => by omega⟩, (Below.refl _ _).alloc (Nat.le_refl _) _⟩
  case round =>
    obtain ⟨k, hkn, rfl, hev, hbel⟩ := hrel
    have HE : Hid (EvsTo wr w.heap.size first n k) := hev
    have HB : Hid (Below w.heap.size w wr) := hbel
    by_cases hlt : k < n
    · have c1 := hev.1.cell hlt
      rw [evTo, if_neg (by omega)] at c1
      have c2 := hev.1.frozen k
      have hs := hev.1.lt
      clear hev hbel hmk
      go_wp2
      go_roundw
      case rel => exact ⟨k + 1, by omega, by go_num, HE.out.step, (HB.out.setCell (Nat.le_refl _) _).alloc (by simp; omega) _⟩
      case measure => simp [intOf]; omega
    · clear hev hbel hmk
      go_wp2
      go_ret
      have hk : k = n := by omega
      subst hk
      exact ⟨rfl, ⟨HE.out.1.congr (fun i hi => by rw [evTo, if_pos hi]), HE.out.2.2⟩, HB.out⟩
end Go.Proofs.Qxb6618173a
