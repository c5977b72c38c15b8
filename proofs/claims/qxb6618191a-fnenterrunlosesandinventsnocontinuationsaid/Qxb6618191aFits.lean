/-
  dropFits (function 7) and the bound on the bytes (function 6).
-/
import Derived.Test.Qxb6618191aSame
namespace Go.Proofs.Qxb6618191a
open Go.RowKit

/-- A call that answers whether P, and touches nothing that was there. -/
def Tells (P : Prop) (w : World) (e : Ending) (w' : World) : Prop := ∃ r : Bool, e = .returned (.bool r) ∧ (r = true ↔ P) ∧ Below w.heap.size w w'

/-- dropFits, plainly. -/
def dfit (held of_ ol : Int) (hl : Bool) (F L : List Int) (head : Int) : Prop :=
  F.length = L.length ∧ 1 ≤ held ∧ shapeP held hl F.length head ∧ ordP (absR held of_ ol F L head.toNat)

theorem absR_len {held of_ ol : Int} {F L : List Int} {hd n : Nat} (hF : F.length = n) (hL : L.length = n) : (absR held of_ ol F L hd).length ≤ n + 1 := by
  unfold absR
  split
  · simp
  · simp [List.length_zip]; omega

set_option maxHeartbeats 1000000 in
theorem dropFits_any (held of_ ol : Int) (hl : Bool) (aF aL : Option Addr) (n m cF cL : Nat) (head : Int) (F L : List Int) (w : World) (hF : F.length = n) (hL : L.length = m) (hn : n ≤ 65536) (hm : m ≤ 65536) (hh : held ≤ 9223372036854775807)
    (rF : Row w aF F) (rL : Row w aL L) :
    Calls Try.prog 7 #[.int .i64 held, .int .i64 of_, .int .i64 ol, .bool hl, .slice aF n cF, .slice aL m cL, .int .i64 head] w fun e w' => Tells (dfit held of_ ol hl F L head) w e w' := by
  have HF : Hid (F.length = n ∧ L.length = m ∧ Row w aF F ∧ Row w aL L) := ⟨hF, hL, rF, rL⟩
  clear hF hL rF rL
  by_cases hnm : n = m
  · subst hnm
    by_cases h1 : held < 1
    · go_enter Try.func7, Try.ntmps7
      go_wp2_with fail
      go_ret
      exact ⟨false, rfl, iff_no (fun h => by have := h.2.1; omega), Below.refl _ _⟩
    · have h1' : 1 ≤ held := by omega
      clear h1
      go_enter Try.func7, Try.ntmps7
      go_wp2_with fail
      refine (shape_any held hl n head w (by omega) (by omega) hh).mono ?_
      rintro e w' ⟨r, rfl, hr, q, rfl⟩
      cases r
      · go_wp2_with fail
        go_ret
        exact ⟨false, rfl, iff_no (fun h => by have := h.2.2.1; rw [HF.out.1] at this; have := hr.2 this; cases this), below_draw (Below.refl _ _) _⟩
      · have hs := hr.1 rfl
        obtain ⟨hd, rfl⟩ : ∃ hd : Nat, head = (hd : Int) := ⟨head.toNat, by have := hs.2.1; omega⟩
        have hhd : hd ≤ n := by have := hs.2.2.1; omega
        have HS : Hid (shapeP held hl n hd) := hs
        clear hr hs
        go_wp2_with fail
        refine (abs_any held of_ ol aF aL n cF cL hd F L (w.drewN q) HF.out.1 HF.out.2.1 (by omega) hhd HF.out.2.2.1 HF.out.2.2.2).mono ?_
        rintro e w2 ⟨a, k, cap, rfl, hk, ho, hb⟩
        have HB : Hid (Below w.heap.size w w2) := (below_draw (Below.refl _ _) q).trans hb
        have HO : Hid (w2.ownsRow w.heap.size 35 2 (.slice a k cap) k (rcells (absR held of_ ol F L hd))) := ho
        have HK : Hid (k = (absR held of_ ol F L hd).length) := hk
        have hk6 : k ≤ 131072 := by have := absR_len (held := held) (of_ := of_) (ol := ol) (hd := hd) HF.out.1 HF.out.2.1; omega
        clear ho hb hk
        go_wp2_with fail
        refine (ordered_any a k cap w.heap.size (absR held of_ ol F L hd) w2 HK.out.symm hk6 HO.out).mono ?_
        rintro e w3 ⟨r, rfl, hr, q3, rfl⟩
        go_wp2
        go_ret
        refine ⟨r, rfl, hr.trans ⟨fun h => ⟨HF.out.1.trans HF.out.2.1.symm, h1', by rw [HF.out.1]; exact HS.out, by rw [Int.toNat_natCast]; exact h⟩, fun h => by have := h.2.2.2; rwa [Int.toNat_natCast] at this⟩, below_draw HB.out _⟩
  · have hb : ((n : Int) != (m : Int)) = true := by rw [bne_iff_ne]; omega
    go_enter Try.func7, Try.ntmps7
    go_wp2
    go_ret
    exact ⟨false, rfl, iff_no (fun h => hnm (by have := HF.out; have := h.1; omega)), Below.refl _ _⟩

def SomeBool (w : World) (e : Ending) (w' : World) : Prop := ∃ r : Bool, e = .returned (.bool r) ∧ w' = w

set_option maxHeartbeats 1000000 in
theorem bytes6 (held of_ ol : Int) (hl : Bool) (aF aL : Option Addr) (n m cF cL : Nat) (head pos : Int) (w : World) (hn : n ≤ 9223372036854775807) (hm : m ≤ 9223372036854775807) :
    Calls Try.prog 6 #[.int .i64 held, .int .i64 of_, .int .i64 ol, .bool hl, .slice aF n cF, .slice aL m cL, .int .i64 head, .int .i64 pos] w fun e w' => SomeBool w e w' := by
  go_enter Try.func6, Try.ntmps6
  go_wp2
  all_goals
    go_ret
    exact ⟨_, rfl, rfl⟩
end Go.Proofs.Qxb6618191a
