/-
  sameInts (function 15).
-/
import Derived.Test.Qxb6618191aSame
namespace Go.Proofs.Qxb6618191a
open Go.RowKit

theorem ints_same {x y : List Int} {n : Nat} (hx : x.length = n) (hy : y.length = n) (h : ∀ j, j < n → x[j]?.getD 0 = y[j]?.getD 0) : x = y := by
  apply List.ext_getElem?
  intro i
  by_cases hi : i < n
  · have := h i hi
    have h1 : i < x.length := by omega
    have h2 : i < y.length := by omega
    simp only [h1, h2, List.getElem?_eq_getElem, Option.getD_some] at this ⊢
    rw [this]
  · rw [List.getElem?_eq_none (by omega), List.getElem?_eq_none (by omega)]

set_option maxHeartbeats 1000000 in
theorem sameInts_any (a b : Option Addr) (n m ca cb : Nat) (x y : List Int) (w : World) (hx : x.length = n) (hy : y.length = m) (hn6 : n ≤ 1000000) (hm6 : m ≤ 1000000) (ra : Row w a x) (rb : Row w b y) :
    Calls Try.prog 15 #[.slice a n ca, .slice b m cb] w fun e w' => Says (x = y) w e w' := by
  have HA : Hid (x.length = n ∧ y.length = m) := ⟨hx, hy⟩
  have HO : Hid (Row w a x ∧ Row w b y) := ⟨ra, rb⟩
  clear hx hy ra rb
  by_cases hnm : n = m
  · subst hnm
    go_enter Try.func15, Try.ntmps15
    go_wp2
    go_loopw [5] (fun i wr => ∃ k q : Nat, k ≤ n ∧ i = .int .i64 k ∧ wr = w.drewN q ∧ Hid (∀ j, j < k → x[j]?.getD 0 = y[j]?.getD 0)) (fun i _ => n - (intOf i).toNat)
    case atStart => exact ⟨0, 0, by omega, rfl, rfl, fun i hi => by omega⟩
    case round =>
      obtain ⟨k, q, hkn, rfl, rfl, HE⟩ := hrel
      by_cases hlt : k < n
      · obtain ⟨b1, o1, rfl, c1⟩ := HO.out.1.at HA.out.1 hlt
        obtain ⟨b2, o2, rfl, c2⟩ := HO.out.2.at HA.out.2 hlt
        have b0 : (k : Int) < (n : Int) := by omega
        obtain ⟨xk, hxk⟩ : ∃ z, x[k]?.getD 0 = z := ⟨_, rfl⟩
        obtain ⟨yk, hyk⟩ : ∃ z, y[k]?.getD 0 = z := ⟨_, rfl⟩
        rw [hxk] at c1
        rw [hyk] at c2
        have HX : Hid (x[k]?.getD 0 = xk ∧ y[k]?.getD 0 = yk) := ⟨hxk, hyk⟩
        clear hxk hyk
        by_cases hxy : xk = yk
        · subst hxy
          go_wp2
          go_quiet (fail)
          go_wp2
          go_roundw
          case rel =>
            refine ⟨k + 1, _, by omega, by go_num, rfl, fun i hi => ?_⟩
            by_cases e : i = k
            · subst e; rw [HX.out.1, HX.out.2]
            · exact HE.out i (by omega)
          case measure => simp [intOf]; omega
        · have hq : (xk != yk) = true := by simpa using hxy
          have hq2 : (xk == yk) = false := by simpa using hxy
          have HN : Hid (¬ xk = yk) := hxy
          clear hxy
          go_wp2
          go_quiet (fail)
          go_wp2
          go_ret
          exact ⟨false, rfl, iff_no (fun h => HN.out (by rw [← HX.out.1, ← HX.out.2, h])), _, drew2 _ _ _⟩
      · go_wp2
        go_ret
        have hk : k = n := by omega
        subst hk
        exact ⟨true, rfl, iff_yes (ints_same HA.out.1 HA.out.2 HE.out), _, rfl⟩
  · have hb : ((n : Int) != (m : Int)) = true := by rw [bne_iff_ne]; omega
    go_enter Try.func15, Try.ntmps15
    go_wp2
    go_ret
    exact ⟨false, rfl, iff_no (fun h => hnm (by have := HA.out; rw [h] at this; omega)), 0, rfl⟩
end Go.Proofs.Qxb6618191a
