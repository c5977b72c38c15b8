/-
  The longest fitting end of a list of events, and what adding does to it: plain lists.
-/
import Derived.Test.Qxb6618173aStand
namespace Go.Proofs.Qxb6618173a
open Go.RowKit

/-- A run of events fits both bounds. -/
def okB (he hby : Int) (es : List (Nat × Int)) : Bool := decide ((es.length : Int) ≤ he) && decide (sumS es ≤ hby)
theorem okB_iff {he hby : Int} {es : List (Nat × Int)} : okB he hby es = true ↔ (es.length : Int) ≤ he ∧ sumS es ≤ hby := by simp [okB]

/-- The longest end that fits both bounds. -/
def best (he hby : Int) : List (Nat × Int) → List (Nat × Int)
  | [] => []
  | x :: r => if okB he hby (x :: r) = true then x :: r else best he hby r

theorem best_ok {he hby : Int} {es : List (Nat × Int)} (h : okB he hby es = true) : best he hby es = es := by
  cases es with
  | nil => rfl
  | cons x r => rw [best, if_pos h]
theorem best_no {he hby : Int} {x : Nat × Int} {r : List (Nat × Int)} (h : ¬ okB he hby (x :: r) = true) : best he hby (x :: r) = best he hby r := by
  rw [best, if_neg h]

theorem nonneg_append {a b : List (Nat × Int)} (h : nonneg (a ++ b)) : nonneg a ∧ nonneg b := ⟨fun x hx => h x (by simp [hx]), fun x hx => h x (by simp [hx])⟩

theorem ok_drop {he hby : Int} {es : List (Nat × Int)} (hn : nonneg es) (h : okB he hby es = true) (d : Nat) : okB he hby (es.drop d) = true := by
  rw [okB_iff] at *
  have e : sumS es = sumS (es.take d) + sumS (es.drop d) := by rw [← sumS_append, List.take_append_drop]
  have h0 : 0 ≤ sumS (es.take d) := sumS_nonneg (fun x hx => hn x (List.mem_of_mem_take hx))
  rw [List.length_drop]
  constructor <;> omega

theorem ok_init {he hby : Int} {es : List (Nat × Int)} {x : Nat × Int} (hn : nonneg (es ++ [x])) (h : okB he hby (es ++ [x]) = true) : okB he hby es = true ∧ (es.length : Int) < he ∧ sumS es + x.2 ≤ hby := by
  rw [okB_iff] at *
  rw [sumS_append] at h
  have h0 : 0 ≤ x.2 := hn x (by simp)
  simp [sumS] at h
  refine ⟨⟨?_, ?_⟩, ?_, ?_⟩ <;> omega

theorem not_ok_init {he hby : Int} {es : List (Nat × Int)} {x : Nat × Int} (h : ¬ okB he hby (es ++ [x]) = true) : ¬ ((es.length : Int) < he ∧ sumS es + x.2 ≤ hby) := by
  rw [okB_iff, sumS_append] at h
  simp [sumS] at h
  intro h2
  have := h (by omega)
  omega

theorem added_drop {he hby : Int} {y : Nat × Int} {r : List (Nat × Int)} {x : Nat × Int} (h : ¬ (((y :: r).length : Int) < he ∧ sumS (y :: r) + x.2 ≤ hby)) : added he hby (y :: r) x = added he hby r x := by
  unfold added
  rw [trim_drop h]

/-- To add behind the longest fitting end of a list is the longest fitting end of the longer list. -/
theorem added_best (he hby : Int) (x : Nat × Int) : ∀ (es : List (Nat × Int)), nonneg (es ++ [x]) → added he hby (best he hby es) x = best he hby (es ++ [x])
  | [], hn => by
    have h0 : 0 ≤ x.2 := hn x (by simp)
    by_cases h : okB he hby [x] = true
    · rw [show best he hby ([] ++ [x]) = [x] from best_ok h]
      rw [okB_iff] at h
      simp [sumS] at h
      exact if_neg (by omega)
    · rw [show best he hby ([] ++ [x]) = [] from best_no h]
      rw [okB_iff] at h
      simp [sumS] at h
      exact if_pos (by omega)
  | y :: r, hn => by
    have hn1 := (nonneg_append hn).1
    by_cases h : okB he hby (y :: r ++ [x]) = true
    · rw [best_ok h]
      obtain ⟨h1, h2, h3⟩ := ok_init hn h
      rw [best_ok h1]
      have h4 := (okB_iff.1 h)
      unfold added
      have h0 : 0 ≤ sumS (y :: r) := sumS_nonneg hn1
      rw [if_neg (by simp only [List.length_cons] at h2; omega), trim_keep ⟨h2, h3⟩]
    · have e1 : best he hby (y :: r ++ [x]) = best he hby (r ++ [x]) := best_no h
      rw [e1, ← added_best he hby x r (nonneg_tail hn)]
      by_cases h1 : okB he hby (y :: r) = true
      · have h2 : okB he hby r = true := ok_drop hn1 h1 1
        rw [best_ok h1, best_ok h2, added_drop (not_ok_init h)]
      · rw [best_no h1]

theorem best_is {he hby : Int} : ∀ {es : List (Nat × Int)} {k : Nat}, nonneg es → k ≤ es.length → (k = 0 ∨ okB he hby (es.drop (es.length - k)) = true) → (k = es.length ∨ ¬ okB he hby (es.drop (es.length - k - 1)) = true) → best he hby es = es.drop (es.length - k)
  | [], k, _, _, _, _ => by simp [best]
  | x :: r, k, hn, hk, h1, h2 => by
    by_cases hkn : k = (x :: r).length
    · rw [hkn, Nat.sub_self] at h1
      rw [hkn, Nat.sub_self]
      rcases h1 with h1 | h1
      · simp at h1
      · exact best_ok h1
    · have h3 := h2.resolve_left hkn
      have h4 : ¬ okB he hby (x :: r) = true := fun h => h3 (ok_drop hn h _)
      simp only [List.length_cons] at hk hkn h1 h2 h3 ⊢
      have e1 : (x :: r).drop (r.length + 1 - k) = r.drop (r.length - k) := by rw [show r.length + 1 - k = (r.length - k) + 1 by omega]; rfl
      rw [best_no h4, e1]
      rw [e1] at h1
      refine best_is (nonneg_tail hn) (by omega) h1 ?_
      by_cases hkr : k = r.length
      · exact .inl hkr
      · right
        rwa [show r.length + 1 - k - 1 = (r.length - k - 1) + 1 by omega] at h3

theorem best_suffix (he hby : Int) : ∀ (es : List (Nat × Int)), ∃ d, d ≤ es.length ∧ best he hby es = es.drop d
  | [] => ⟨0, Nat.le_refl _, rfl⟩
  | x :: r => by
    by_cases h : okB he hby (x :: r) = true
    · exact ⟨0, Nat.zero_le _, best_ok h⟩
    · obtain ⟨d, hd, e⟩ := best_suffix he hby r
      exact ⟨d + 1, by simpa using hd, by rw [best_no h, e]; rfl⟩
theorem best_facts {he hby : Int} {es : List (Nat × Int)} (hn : nonneg es) : (best he hby es).length ≤ es.length ∧ nonneg (best he hby es) ∧ sumS (best he hby es) ≤ sumS es := by
  obtain ⟨d, hd, e⟩ := best_suffix he hby es
  rw [e]
  have e2 : sumS es = sumS (es.take d) + sumS (es.drop d) := by rw [← sumS_append, List.take_append_drop]
  have h0 : 0 ≤ sumS (es.take d) := sumS_nonneg (fun x hx => hn x (List.mem_of_mem_take hx))
  exact ⟨by rw [List.length_drop]; omega, fun x hx => hn x (List.mem_of_mem_drop hx), by omega⟩
end Go.Proofs.Qxb6618173a
