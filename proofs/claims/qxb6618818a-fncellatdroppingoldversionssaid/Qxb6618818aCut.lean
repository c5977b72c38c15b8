/-
  stampAmong (function 17), what a cut chain answers, and the walk of FnCellAtDroppingOldVersions (function 5).
-/
import Derived.Test.Qxb6618818aLaws
namespace Go.Proofs.Qxb6618818a
open Go.RowKit

theorem mem_at {l : List Int} {n k : Nat} {x : Int} (hl : l.length = n) (hk : k < n) (h : l[k]?.getD 0 = x) : x ∈ l := by
  rw [← h, List.getElem?_eq_getElem (by omega)]
  exact List.getElem_mem _

theorem not_mem_of {l : List Int} {n : Nat} {x : Int} (hl : l.length = n) (h : ∀ i, i < n → l[i]?.getD 0 ≠ x) : x ∉ l := by
  intro hx
  obtain ⟨i, hi, e⟩ := List.getElem_of_mem hx
  exact h i (by omega) (by rw [List.getElem?_eq_getElem hi]; exact e)

set_option maxHeartbeats 1000000 in
theorem among_any (a : Option Addr) (n cap : Nat) (l : List Int) (x : Int) (w : World) (hl : l.length = n) (hn : n ≤ 65536) (hr : Row w a l) :
    Calls Try.prog 17 #[.slice a n cap, .int .u64 x] w fun e w' => ∃ r : Bool, e = .returned (.bool r) ∧ (r = true ↔ x ∈ l) ∧ w' = w := by
  have HL : Hid (l.length = n) := hl
  have hx : ∀ k, k < n → ∃ b off, a = some ⟨b, off, none⟩ ∧ w.cell? ⟨b, off + k, none⟩ = some (.int .u64 (l[k]?.getD 0)) := by
    intro k hk
    rcases hr with rfl | ⟨b, off, h1, hc⟩
    · simp at hl; omega
    · exact ⟨b, off, h1, hc k (by omega)⟩
  have HX : Hid _ := hx
  clear hr hl hx
  go_enter Try.func17, Try.ntmps17
  go_wp2
  go_loop [5] (fun i => ∃ k : Nat, k ≤ n ∧ i = .int .i64 k ∧ Hid (∀ i, i < k → l[i]?.getD 0 ≠ x)) (fun i => n - (intOf i).toNat)
  case atStart => exact ⟨0, by omega, rfl, fun i hi => by omega⟩
  case round =>
    obtain ⟨k, hkn, rfl, HF⟩ := hrel
    by_cases hlt : k < n
    · obtain ⟨b, off, rfl, hc⟩ := HX.out k hlt
      have b1 : (k : Int) < (n : Int) := by omega
      go_wp2
      · have he : (l[k]?.getD 0 == x) = true := by assumption
        go_ret
        exact .inr ⟨rfl, mem_at HL.out hlt (by simpa using he), rfl⟩
      · have he : (l[k]?.getD 0 == x) = false := by assumption
        go_round
        case rel =>
          refine ⟨k + 1, by omega, by go_num, fun i hi => ?_⟩
          by_cases e : i = k
          · subst e; simpa using he
          · exact HF.out i (by omega)
        case measure => simp [intOf]; omega
    · go_wp2
      go_ret
      have hkn' : k = n := by omega
      subst hkn'
      exact .inl ⟨rfl, not_mem_of HL.out HF.out, rfl⟩

theorem newest_take_none {q : Int} {l : List Int} (k : Nat) (h : newest q l = none) : newest q (l.take k) = none := by
  unfold newest at *
  rw [List.find?_eq_none] at *
  exact fun x hx => h x (List.mem_of_mem_take hx)

theorem newest_append {q s : Int} {l r : List Int} (h : newest q l = some s) : newest q (l ++ r) = some s := by
  unfold newest at *
  rw [List.find?_append, h]
  rfl

theorem newest_take_some {q s : Int} {l : List Int} {k : Nat} (h : newest q l = some s) {t : Int} (ht : newest q (l.take k) = some t) : t = s := by
  have := newest_append (r := l.drop k) ht
  rw [List.take_append_drop, h] at this
  injection this with this
  exact this.symm

theorem newest_take_yes {q s : Int} {l : List Int} {k : Nat} (h : newest q l = some s) (hm : s ∈ l.take k) : newest q (l.take k) = some s := by
  cases ht : newest q (l.take k) with
  | none =>
    unfold newest at ht
    rw [List.find?_eq_none] at ht
    have := ht s hm
    have hs := newest_le h
    simp at this
    omega
  | some t => rw [newest_take_some h ht]

theorem newest_take_no {q s : Int} {l : List Int} {k : Nat} (h : newest q l = some s) (hm : s ∉ l.take k) : newest q (l.take k) = none := by
  cases ht : newest q (l.take k) with
  | none => rfl
  | some t =>
    have := newest_take_some h ht
    subst this
    exact absurd (newest_mem ht) hm

theorem Row.take {w : World} {a : Option Addr} {l : List Int} (k : Nat) (h : Row w a l) : Row w a (l.take k) := by
  rcases h with h | ⟨b, off, ha, hc⟩
  · exact .inl (by rw [h]; simp)
  · refine .inr ⟨b, off, ha, fun i hi => ?_⟩
    rw [List.length_take] at hi
    rw [hc i (by omega), List.getElem?_take, if_pos (by omega)]

set_option maxHeartbeats 1000000 in
theorem top5 (a : Option Addr) (n cap : Nat) (l : List Int) (kI q : Int) (w : World) (hl : l.length = n) (ha : a = none → n = 0) (hr : Row w a l) :
    Calls Try.prog 5 #[.slice a n cap, .int .i64 kI, .int .u64 q] w fun e w' => e = .returned (.bool true) ∧ Below w.heap.size w w' := by
  have HL : Hid (l.length = n) := hl
  have HA : Hid (a = none → n = 0) := ha
  have HR : Hid (Row w a l) := hr
  clear hl ha hr
  by_cases h1 : n ≤ 65536
  · by_cases hk : 0 ≤ kI ∧ kI ≤ n
    · obtain ⟨hk0, hkn⟩ := hk
      obtain ⟨k, rfl⟩ := Int.eq_ofNat_of_zero_le hk0
      have hkn' : k ≤ n := by omega
      have HT : Hid ((l.take k).length = k) := by show (l.take k).length = k; rw [List.length_take]; have := HL.out; omega
      go_enter Try.func5, Try.ntmps5
      go_wp2_with (go_at_call 16; go_in)
      refine (falling_any _ _ _ _ _ HL.out h1 HR.out).mono ?_
      rintro e w1 ⟨r, rfl, hf, nq, rfl⟩
      have HF : Hid (r = true ↔ Falls l) := hf
      clear hf
      cases r
      · go_wp2
        go_ret
        exact ⟨rfl, below_draw (Below.refl _ _) _⟩
      · have HF2 : Hid (Falls l) := HF.out.1 rfl
        go_wp2_with fail
        refine (clone_any _ _ _ _ _ HL.out h1 HA.out (HR.out.draw _)).mono ?_
        rintro e w2 ⟨a2, rfl, ha2, hr2, hb2⟩
        have HR2 : Hid (Row w2 a2 l) := hr2
        have HB2 : Hid (Below w.heap.size w w2) := (below_draw (Below.refl _ _) nq).trans hb2
        have HA2 : Hid (a2 = none → n = 0) := ha2
        clear HR HF hr2 hb2 ha2
        go_wp2_with fail
        refine (newCell_any _ _ _ _ _ HL.out h1 HR2.out).mono ?_
        rintro e w3 ⟨rfl, hk3, hb3⟩
        have HK3 : Hid (CellOk w3 w2.heap.size l) := hk3
        have HR3 : Hid (Row w3 a2 l) := HR2.out.below hb3
        have HB3 : Hid (Below w.heap.size w w3) := HB2.out.trans (hb3.mono HB2.out.size)
        clear HR2 HB2 hk3 hb3
        generalize w2.heap.size = c at *
        go_wp2_with fail
        refine (clone_any _ _ _ (l.take k) _ HT.out (by omega) (fun h => by have := HA2.out h; omega) (HR3.out.take _)).mono ?_
        rintro e w4 ⟨a4, rfl, ha4, hr4, hb4⟩
        have HR4 : Hid (Row w4 a4 (l.take k)) := hr4
        have HS4 : Hid (Row w4 a2 l) := HR3.out.below hb4
        have HK4 : Hid (CellOk w4 c l) := HK3.out.below hb4
        have HB4 : Hid (Below w.heap.size w w4) := HB3.out.trans (hb4.mono HB3.out.size)
        clear HK3 HR3 HB3 hr4 hb4 ha4
        go_wp2_with fail
        refine (newCell_any _ _ _ (l.take k) _ HT.out (by omega) HR4.out).mono ?_
        rintro e w5 ⟨rfl, hk5, hb5⟩
        have HJ5 : Hid (CellOk w5 w4.heap.size (l.take k)) := hk5
        have HK5 : Hid (CellOk w5 c l) := HK4.out.below hb5
        have HS5 : Hid (Row w5 a2 l) := HS4.out.below hb5
        have HB5 : Hid (Below w.heap.size w w5) := HB4.out.trans (hb5.mono HB4.out.size)
        clear HR4 HS4 HK4 HB4 hk5 hb5
        generalize w4.heap.size = d at *
        go_wp2_with fail
        refine (cellAt_any _ _ l _ HK5.out).mono ?_
        rintro e w6 ⟨rfl, nq6, hw6⟩
        have HJ6 : Hid (CellOk w6 d (l.take k)) := by rw [hw6]; exact HJ5.out.draw _
        have HS6 : Hid (Row w6 a2 l) := by rw [hw6]; exact HS5.out
        have HB6 : Hid (Below w.heap.size w w6) := by rw [hw6]; exact below_draw HB5.out _
        clear HK5 HJ5 HS5 HB5 hw6
        go_wp2_with fail
        refine (cellAt_any _ _ (l.take k) _ HJ6.out).mono ?_
        rintro e w7 ⟨rfl, nq7, hw7⟩
        have HS7 : Hid (Row w7 a2 l) := by rw [hw7]; exact HS6.out
        have HB7 : Hid (Below w.heap.size w w7) := by rw [hw7]; exact below_draw HB6.out _
        clear HJ6 HS6 HB6 hw7
        go_wp2_with fail
        refine (greatest_any _ _ _ _ _ _ HL.out h1 HS7.out).mono ?_
        rintro e w8 ⟨rfl, rfl⟩
        rw [gto_newest HL.out HF2.out]
        cases ho : newest q l with
        | none =>
          rw [newest_take_none k ho]
          clear ho
          go_wp2
          go_ret
          exact ⟨rfl, HB7.out⟩
        | some s =>
          have HO : Hid (newest q l = some s) := ho
          clear ho
          generalize hz : newest q (l.take k) = z
          have HZ : Hid (newest q (l.take k) = z) := hz
          clear hz
          go_wp2_with fail
          refine (among_any _ _ _ (l.take k) _ _ HT.out (by omega) (HS7.out.take _)).mono ?_
          rintro e w9 ⟨r, rfl, hm, rfl⟩
          have HM : Hid (r = true ↔ s ∈ l.take k) := hm
          clear hm
          cases r
          · have hz0 : z = none := by rw [← HZ.out]; exact newest_take_no HO.out (fun h => by have := HM.out.2 h; cases this)
            subst hz0
            go_wp2
            go_ret
            exact ⟨rfl, HB7.out⟩
          · have hz0 : z = some s := by rw [← HZ.out]; exact newest_take_yes HO.out (HM.out.1 rfl)
            subst hz0
            go_wp2
            go_ret
            exact ⟨rfl, HB7.out⟩
    · by_cases hk0 : kI < 0
      · clear hk
        go_enter Try.func5, Try.ntmps5
        go_wp2_with (go_at_call 16; go_in)
        go_ret
        exact ⟨rfl, Below.refl _ _⟩
      · have hk1 : (n : Int) < kI := by omega
        clear hk
        go_enter Try.func5, Try.ntmps5
        go_wp2_with (go_at_call 16; go_in)
        go_ret
        exact ⟨rfl, Below.refl _ _⟩
  · by_cases h2 : n ≤ 1048576
    · go_enter Try.func5, Try.ntmps5
      go_wp2_with (go_at_call 16; go_in)
      go_ret
      exact ⟨rfl, Below.refl _ _⟩
    · go_enter Try.func5, Try.ntmps5
      go_wp2_with (go_at_call 16; go_in)
      go_ret
      exact ⟨rfl, Below.refl _ _⟩
end Go.Proofs.Qxb6618818a
