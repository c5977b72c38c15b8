/-
  The plain laws of falling stamps, and what stays of rows, chains and cells.
-/
import Derived.Test.Qxb6618818aAt
import Derived.OpenShut
namespace Go.Proofs.Qxb6618818a
open Go.RowKit

theorem falls_tail {a : Int} {l : List Int} (h : Falls (a :: l)) : Falls l := fun i hi => by
  have := h (i + 1) (by simpa using hi)
  simpa using this

theorem falls_head : ∀ {l : List Int} {a : Int}, Falls (a :: l) → ∀ x ∈ l, x < a
  | [], _, _, x, hx => by cases hx
  | b :: r, a, h, x, hx => by
    have h0 := h 0 (by simp)
    simp at h0
    rcases List.mem_cons.1 hx with rfl | hx
    · exact h0
    · have := falls_head (falls_tail h) x hx
      omega

theorem fold_some (q b : Int) : ∀ (l : List Int), (∀ x ∈ l, x < b) → l.foldl (gstep q) (some b) = some b
  | [], _ => rfl
  | x :: r, h => by
    have hx := h x (by simp)
    have : gstep q (some b) x = some b := by
      simp only [gstep]
      by_cases hq : x ≤ q
      · rw [if_pos hq, if_neg (by omega)]
      · rw [if_neg hq]
    rw [List.foldl_cons, this]
    exact fold_some q b r (fun y hy => h y (by simp [hy]))

theorem fold_newest (q : Int) : ∀ (l : List Int), Falls l → l.foldl (gstep q) none = newest q l
  | [], _ => rfl
  | x :: r, h => by
    rw [List.foldl_cons]
    by_cases hq : x ≤ q
    · rw [newest_yes hq, show gstep q none x = some x from by simp [gstep, hq]]
      exact fold_some q x r (falls_head h)
    · rw [newest_no hq, show gstep q none x = none from by simp [gstep, hq]]
      exact fold_newest q r (falls_tail h)

theorem gto_newest {q : Int} {l : List Int} {n : Nat} (hl : l.length = n) (h : Falls l) : gto q l n = newest q l := by
  unfold gto
  rw [List.take_of_length_le (by omega)]
  exact fold_newest q l h

theorem newest_again {q s : Int} {l : List Int} (h : newest q l = some s) : newest s l = some s := by
  induction l with
  | nil => cases h
  | cons x r ih =>
    by_cases hq : x ≤ q
    · rw [newest_yes hq] at h
      injection h with h
      subst h
      exact newest_yes (Int.le_refl _)
    · rw [newest_no hq] at h
      have hs : s ≤ q := by
        have := List.find?_some h
        simpa using this
      rw [newest_no (by omega)]
      exact ih h

theorem newest_le {q s : Int} {l : List Int} (h : newest q l = some s) : s ≤ q := by
  have := List.find?_some h
  simpa using this

theorem newest_mem {q s : Int} {l : List Int} (h : newest q l = some s) : s ∈ l := List.mem_of_find?_eq_some h


theorem Row.below {w w' : World} {a : Option Addr} {l : List Int} (hb : Below w.heap.size w w') (h : Row w a l) : Row w' a l := by
  rcases h with h | ⟨b, off, ha, hc⟩
  · exact .inl h
  · exact .inr ⟨b, off, ha, fun i hi => by rw [hb.cell (p := ⟨b, off + i, none⟩) (lt_of_cell (hc i hi))]; exact hc i hi⟩

theorem Row.draw {w : World} {a : Option Addr} {l : List Int} (n : Nat) (h : Row w a l) : Row (w.drewN n) a l := h
theorem CellOk.draw {w : World} {c : Nat} {l : List Int} (n : Nat) (h : CellOk w c l) : CellOk (w.drewN n) c l := by
  obtain ⟨p, h1, h2⟩ := h
  exact ⟨p, h1, Chain.keep (w := w) (w' := w.drewN n) (fun b C e => e) h2⟩
theorem CellOk.below {w w' : World} {c : Nat} {l : List Int} (hb : Below w.heap.size w w') (h : CellOk w c l) : CellOk w' c l := by
  obtain ⟨p, h1, h2⟩ := h
  exact ⟨p, by rw [hb.cell (p := ⟨c, 2, none⟩) (lt_of_cell h1)]; exact h1, h2.below hb⟩
theorem below_draw {B : Nat} {a w : World} (h : Below B a w) (n : Nat) : Below B a (w.drewN n) := ⟨h.os, h.tape, h.output, h.size, h.block⟩

theorem row_of {w : World} {a : Option Addr} {len cap : Nat} {zs : List Int}
    (h : (a = none ∧ len = 0 ∧ cap = 0 ∧ zs = []) ∨ ∃ x, a = some x ∧ len ≤ cap ∧ cap ≤ maxLen ∧ zs.length = cap ∧ (∀ i, i < zs.length → w.cell? (x.add i) = some (.int .u64 (zs.getD i 0))) ∧ ∀ n ∈ zs, (Lit.int .u64 n).wf = true) :
    (zs.take len).length = len ∧ (a = none → len = 0) ∧ Row w a (zs.take len) ∧ ∀ s ∈ zs.take len, s ≤ 18446744073709551615 := by
  rcases h with ⟨rfl, rfl, rfl, rfl⟩ | ⟨x, rfl, hl, hm, hz, hc, hw⟩
  · exact ⟨rfl, fun _ => rfl, .inl rfl, fun s hs => by cases hs⟩
  · have hlen : (zs.take len).length = len := by rw [List.length_take]; omega
    refine ⟨hlen, fun h => (by cases h), ?_, fun s hs => (bounds_u64 (hw s (List.mem_of_mem_take hs))).2⟩
    by_cases h0 : len = 0
    · exact .inl (by rw [h0]; rfl)
    · obtain ⟨b, off, rfl, hc'⟩ := ints_at hc (by omega)
      refine .inr ⟨b, off, rfl, fun i hi => ?_⟩
      have hi' : i < len := by omega
      rw [hc' i (by omega), List.getElem?_take, if_pos hi', List.getD_eq_getElem?_getD]
end Go.Proofs.Qxb6618818a
