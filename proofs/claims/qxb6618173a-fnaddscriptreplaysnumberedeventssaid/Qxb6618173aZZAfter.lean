/-
  ZZAfter (function 15).
-/
import Derived.Test.Qxb6618173aAfter
namespace Go.Proofs.Qxb6618173a
open Go.RowKit

theorem owns_mono {w : World} {base base' : Nat} {e : TypeId} {size : Nat} {v : Value} {n : Nat} {xs : List Value} (h : w.ownsRow base e size v n xs) (hb : base' ≤ base) : w.ownsRow base' e size v n xs := by
  obtain ⟨h1, h2⟩ := h
  refine ⟨h1, ?_⟩
  rcases h2 with h2 | ⟨g, cap, cur, hv, hg, r⟩
  · exact .inl h2
  · exact .inr ⟨g, cap, cur, hv, by omega, r⟩

set_option maxRecDepth 100000 in
set_option maxHeartbeats 1000000 in
theorem zzAfter (B hb n m d : Nat) (es : List (Nat × Int)) (by_ since last : Int) (w : World) (h : Hist w B hb es by_) (hn : es.length = n) (hn6 : n ≤ 65536) (h0 : 0 ≤ since) (h1 : since ≤ last) (h2 : last ≤ 18446744073709551614) (h3 : (n : Int) ≤ last)
    (hm : n - d = m) (hd : d ≤ n) (hm1 : since + n < last → m = n) (hm2 : last ≤ since + n → (m : Int) = last - since) (gone : Int) (hg : gone = last - since - m) :
    Calls Try.prog 15 #[.pointer (some ⟨hb, 0, none⟩), .int .u64 since, .int .u64 last] w fun e w' => ∃ a cap, e = .returned (.agg #[.int .u64 last, .int .u64 gone, .slice a m cap]) ∧ w'.ownsRow w.heap.size 29 1 (.slice a m cap) m (ptrs es d m) ∧ Below w.heap.size w w' := by
  have H : Hid (Hist w B hb es by_) := h
  have HP : Hid (es.length = n ∧ n - d = m ∧ (since + n < last → m = n) ∧ (last ≤ since + n → (m : Int) = last - since) ∧ gone = last - since - m) := ⟨hn, hm, hm1, hm2, hg⟩
  clear h hn hm hm1 hm2 hg
  go_enter Try.func15, Try.ntmps15
  go_wp2_with fail
  refine (after_any B hb n m d es by_ since last _ (H.out.alloc _) HP.out.1 hn6 h0 h1 h2 h3 HP.out.2.1 hd HP.out.2.2.1 HP.out.2.2.2.1 gone HP.out.2.2.2.2).mono ?_
  rintro e w1 ⟨v, rfl, ho, hb1⟩
  obtain ⟨a', cap', hv⟩ : ∃ a' cap', v = .slice a' m cap' := by
    rcases ho.2 with ⟨h, h0⟩ | ⟨g, cap, cur, h, _⟩
    · exact ⟨none, 0, by rw [h, h0]⟩
    · exact ⟨_, cap, h⟩
  subst hv
  have hblk : w1.heap[w.heap.size]? = some (.cells #[.int .u64 0, .int .u64 0, .slice none 0 0] 41 (0, 0)) := by
    rw [hb1.block _ (by simp)]; exact heap_alloc_new _ _
  have t0 : w1.cell? ⟨w.heap.size, 0, none⟩ = some (.int .u64 0) := by rw [cell_of_heap hblk]; rfl
  have t1 : w1.cell? ⟨w.heap.size, 1, none⟩ = some (.int .u64 0) := by rw [cell_of_heap hblk]; rfl
  have t2 : w1.cell? ⟨w.heap.size, 2, none⟩ = some (.slice none 0 0) := by rw [cell_of_heap hblk]; rfl
  have y0 := frozen_of_heap hblk 0
  have y1 := frozen_of_heap hblk 1
  have y2 := frozen_of_heap hblk 2
  have HO : Hid (w1.ownsRow (w.heap.size + 1 + 2) 29 1 (.slice a' m cap') m (ptrs es d m)) := by have := ho; rw [World.size_alloc] at this; exact this
  have HB : Hid (Below w.heap.size w w1) := ((Below.refl _ _).alloc (Nat.le_refl _) _).trans (hb1.mono (by simp))
  clear ho hb1 hblk
  go_wp2
  refine bodyPost_ret (v := .agg #[.int .u64 last, .int .u64 gone, .slice a' m cap']) (by simp [results, Try.results15, go_sem, t0, t1, t2]) rfl ?_
  refine ⟨_, _, rfl, owns_mono (ownsRow_setCell_below (ownsRow_setCell_below (ownsRow_setCell_below HO.out (by simp; omega) _) (by simp; omega) _) (by simp; omega) _) (by omega), ((HB.out.setCell (Nat.le_refl _) _).setCell (Nat.le_refl _) _).setCell (Nat.le_refl _) _⟩
end Go.Proofs.Qxb6618173a
