/-
  inSorted (function 20).
-/
import Derived.Test.Qxb6618191aSame
namespace Go.Proofs.Qxb6618191a
open Go.RowKit

/-- Strictly increasing. -/
def Inc (xs : List Int) : Prop := ∀ i j, i < j → j < xs.length → xs[i]?.getD 0 < xs[j]?.getD 0

theorem mem_at {xs : List Int} {x : Int} : x ∈ xs ↔ ∃ i, i < xs.length ∧ xs[i]?.getD 0 = x := by
  constructor
  · intro h
    obtain ⟨i, hi, e⟩ := List.getElem_of_mem h
    exact ⟨i, hi, by rw [List.getElem?_eq_getElem hi]; exact e⟩
  · rintro ⟨i, hi, e⟩
    rw [List.getElem?_eq_getElem hi] at e
    rw [← e]
    exact List.getElem_mem hi

theorem sorted_no {xs : List Int} {x : Int} {n k : Nat} (hn : xs.length = n) (h1 : ∀ j, j < k → xs[j]?.getD 0 < x) (h2 : ∀ j, k ≤ j → j < n → x ≤ xs[j]?.getD 0) (hi : Inc xs) (h3 : k < n → ¬ xs[k]?.getD 0 = x) : ¬ x ∈ xs := by
  intro h
  obtain ⟨i, hi2, e⟩ := mem_at.1 h
  by_cases hk : i < k
  · have := h1 i hk; omega
  · by_cases hke : i = k
    · subst hke; exact h3 (by omega) e
    · have := hi k i (by omega) hi2
      have := h2 k (Nat.le_refl _) (by omega)
      omega

set_option maxHeartbeats 1000000 in
theorem inSorted_any (a : Option Addr) (n ca : Nat) (x : Int) (xs : List Int) (w : World) (hn : xs.length = n) (hn6 : n ≤ 1000000) (hr : Row w a xs) (hi : Inc xs) :
    Calls Try.prog 20 #[.slice a n ca, .int .i64 x] w fun e w' => Says (x ∈ xs) w e w' := by
  have HA : Hid (xs.length = n ∧ Row w a xs ∧ Inc xs) := ⟨hn, hr, hi⟩
  clear hn hr hi
  go_enter Try.func20, Try.ntmps20
  go_wp2
  go_loopw [5, 6, 7] (fun lo hi _ wr => ∃ l h : Nat, l ≤ h ∧ h ≤ n ∧ lo = .int .i64 l ∧ hi = .int .i64 h ∧ wr = w ∧ Hid (∀ j, j < l → xs[j]?.getD 0 < x) ∧ Hid (∀ j, h ≤ j → j < n → x ≤ xs[j]?.getD 0)) (fun lo hi _ _ => (intOf hi - intOf lo).toNat)
  case atStart => exact ⟨0, n, by omega, by omega, rfl, rfl, rfl, fun i hi => by omega, fun i hi hj => by omega⟩
  case round =>
    obtain ⟨l, h, hlh, hhn, rfl, rfl, rfl, H1, H2⟩ := hrel
    by_cases hd : l < h
    · obtain ⟨b, o, rfl, hc⟩ := HA.out.2.1.at HA.out.1 (show l + (h - l) / 2 < n by omega)
      have b0 : (l : Int) < (h : Int) := by omega
      obtain ⟨y, hy⟩ : ∃ y, xs[l + (h - l) / 2]?.getD 0 = y := ⟨_, rfl⟩
      rw [hy] at hc
      have HY : Hid (xs[l + (h - l) / 2]?.getD 0 = y) := hy
      clear hy
      by_cases hyx : y < x
      · go_wp2
        refine ⟨⟨l + (h - l) / 2 + 1, h, by omega, hhn, by congr 1; omega, rfl, trivial, fun j hj => ?_, H2⟩, by simp only [intOf]; omega⟩
        by_cases e : j = l + (h - l) / 2
        · rw [e, HY.out]; exact hyx
        · have h3 := HA.out.2.2 j (l + (h - l) / 2) (by omega) (by have := HA.out.1; omega)
          rw [HY.out] at h3
          omega
      · have hyx2 : x ≤ y := by omega
        go_wp2
        refine ⟨⟨l, l + (h - l) / 2, by omega, by omega, rfl, by congr 1; omega, trivial, H1, fun j hj hjn => ?_⟩, by simp only [intOf]; omega⟩
        by_cases e : j = l + (h - l) / 2
        · rw [e, HY.out]; exact hyx2
        · have h3 := HA.out.2.2 (l + (h - l) / 2) j (by omega) (by have := HA.out.1; omega)
          rw [HY.out] at h3
          omega
    · obtain rfl : l = h := by omega
      by_cases hln : l < n
      · obtain ⟨b, o, rfl, hc⟩ := HA.out.2.1.at HA.out.1 hln
        obtain ⟨y, hy⟩ : ∃ y, xs[l]?.getD 0 = y := ⟨_, rfl⟩
        rw [hy] at hc
        have HY : Hid (xs[l]?.getD 0 = y) := hy
        have b0 : (l : Int) < (n : Int) := by omega
        clear hy
        by_cases hyx : y = x
        · subst hyx
          go_wp2
          go_ret
          exact ⟨true, rfl, iff_yes (mem_at.2 ⟨l, by have := HA.out.1; omega, HY.out⟩), 0, rfl⟩
        · have hq : (y == x) = false := beq_eq_false_iff_ne.2 hyx
          go_wp2
          go_ret
          exact ⟨false, rfl, iff_no (sorted_no HA.out.1 H1.out H2.out HA.out.2.2 (fun _ => by rw [HY.out]; exact hyx)), 0, rfl⟩
      · have hq : decide ((l : Int) < (n : Int)) = false := by simp; omega
        go_wp2
        go_ret
        exact ⟨false, rfl, iff_no (sorted_no HA.out.1 H1.out H2.out HA.out.2.2 (fun h => absurd h hln)), 0, rfl⟩
end Go.Proofs.Qxb6618191a
