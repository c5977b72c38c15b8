/-
  The readers of a history: functions 10, 11, 12, 13.
-/
import Derived.Test.Qxb6618173aMake
namespace Go.Proofs.Qxb6618173a
open Go.RowKit

theorem Hist.open {w : World} {B hb : Nat} {es : List (Nat × Int)} {by_ : Int} (h : Hist w B hb es by_) :
    ∃ a cap, w.cell? ⟨hb, 0, none⟩ = some (.slice a es.length cap) ∧ w.cell? ⟨hb, 1, none⟩ = some (.int .i64 by_) ∧
      ∀ i x, es[i]? = some x → ∃ g o, a = some ⟨g, o, none⟩ ∧ w.cell? ⟨g, o + i * 2, none⟩ = some (.pointer (some ⟨x.1, 0, none⟩)) ∧ w.cell? ⟨g, o + i * 2 + 1, none⟩ = some (.int .i64 x.2) := by
  obtain ⟨_, v, hv, hs⟩ := h
  rcases hs with ⟨rfl, a, rfl⟩ | ⟨g, o, cap, C, rfl, _, hg, hlc, _, hC, hc⟩
  · exact ⟨a, 0, by rw [cell_of_heap hv]; rfl, by rw [cell_of_heap hv]; rfl, fun i x hx => by simp at hx⟩
  · refine ⟨_, cap, by rw [cell_of_heap hv]; rfl, by rw [cell_of_heap hv]; rfl, fun i x hx => ⟨g, o, rfl, ?_, ?_⟩⟩
    · have hi := (List.getElem?_eq_some_iff.1 hx).1
      rw [cell_of_heap hg, show o + i * 2 = o + 2 * i by omega, hc _ (by omega), hcell_even hx]
    · have hi := (List.getElem?_eq_some_iff.1 hx).1
      rw [cell_of_heap hg, show o + i * 2 + 1 = o + (2 * i + 1) by omega, hc _ (by omega), hcell_odd hx]

theorem histLen (B hb : Nat) (es : List (Nat × Int)) (by_ : Int) (w : World) (h : Hist w B hb es by_) :
    Calls Try.prog 10 #[.pointer (some ⟨hb, 0, none⟩)] w fun e w' => e = .returned (.int .i64 es.length) ∧ w' = w := by
  obtain ⟨a, cap, c0, _, _⟩ := h.open
  clear h
  go_enter Try.func10, Try.ntmps10
  go_wp2
  go_ret
  exact ⟨rfl, rfl⟩

theorem histBytes (B hb : Nat) (es : List (Nat × Int)) (by_ : Int) (w : World) (h : Hist w B hb es by_) :
    Calls Try.prog 11 #[.pointer (some ⟨hb, 0, none⟩)] w fun e w' => e = .returned (.int .i64 by_) ∧ w' = w := by
  obtain ⟨a, cap, _, c1, _⟩ := h.open
  clear h
  go_enter Try.func11, Try.ntmps11
  go_wp2
  go_ret
  exact ⟨rfl, rfl⟩

theorem histEvent (B hb : Nat) (es : List (Nat × Int)) (by_ : Int) (i : Nat) (x : Nat × Int) (w : World) (h : Hist w B hb es by_) (hx : es[i]? = some x) :
    Calls Try.prog 12 #[.pointer (some ⟨hb, 0, none⟩), .int .i64 i] w fun e w' => e = .returned (.pointer (some ⟨x.1, 0, none⟩)) ∧ w' = w := by
  obtain ⟨a, cap, c0, _, hc⟩ := h.open
  obtain ⟨g, o, rfl, c1, c2⟩ := hc i x hx
  have hi := (List.getElem?_eq_some_iff.1 hx).1
  have b1 : (i : Int) < (es.length : Int) := by omega
  clear h hc hx
  go_enter Try.func12, Try.ntmps12
  go_wp2
  go_ret
  exact ⟨rfl, rfl⟩

theorem histSize (B hb : Nat) (es : List (Nat × Int)) (by_ : Int) (i : Nat) (x : Nat × Int) (w : World) (h : Hist w B hb es by_) (hx : es[i]? = some x) :
    Calls Try.prog 13 #[.pointer (some ⟨hb, 0, none⟩), .int .i64 i] w fun e w' => e = .returned (.int .i64 x.2) ∧ w' = w := by
  obtain ⟨a, cap, c0, _, hc⟩ := h.open
  obtain ⟨g, o, rfl, c1, c2⟩ := hc i x hx
  have hi := (List.getElem?_eq_some_iff.1 hx).1
  have b1 : (i : Int) < (es.length : Int) := by omega
  clear h hc hx
  go_enter Try.func13, Try.ntmps13
  go_wp2
  go_ret
  exact ⟨rfl, rfl⟩
end Go.Proofs.Qxb6618173a
