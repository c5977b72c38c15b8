/-
  enterFits (function 17), the bound on the bytes (function 16).
-/
import Derived.Test.Qxb6618191aFits
namespace Go.Proofs.Qxb6618191a
open Go.RowKit

/-- What enterFits' yes says. -/
structure EFit (held : Int) (hl : Bool) (F L : List Int) (head pos : Int) (more : List Int) (span : Int) (A : List (Int × Int)) (low : Int) : Prop where
  s1 : 1 ≤ span
  s2 : span ≤ 4611686018427387903
  len : F.length = L.length
  shape : shapeP held hl F.length head
  ord : ordP A
  some : 1 ≤ A.length → 0 ≤ fs A 0 ∧ ls A (A.length - 1) < 4611686018427387903 ∧ low = ls A (A.length - 1) + 1
  none : A.length = 0 → low = 0
  p1 : low ≤ pos
  p2 : pos ≤ 4611686018427387903
  more : ∀ i, i < more.length → (if i = 0 then pos else more[i - 1]?.getD 0) < more[i]?.getD 0 ∧ more[i]?.getD 0 ≤ 4611686018427387903

theorem ord_ends {A : List (Int × Int)} (ho : ordP A) {n : Nat} (hn : A.length = n) (h0 : 0 < n) {a b : Int} (ha : fs A 0 = a) (hb : ls A (n - 1) = b) : a ≤ b := by
  have h : ∀ i, i < n → a ≤ ls A i := by
    intro i
    induction i with
    | zero => intro hi; have := (ho 0 (by omega)).1; omega
    | succ j ih =>
      intro hi
      have h1 := ih (by omega)
      have h2 := ho (j + 1) (by omega)
      have h3 := h2.2 (by omega)
      rw [show j + 1 - 1 = j by omega] at h3
      omega
  rw [← hb]
  exact h (n - 1) (by omega)

def Yes (P : Prop) (w : World) (e : Ending) (w' : World) : Prop := ∃ r : Bool, e = .returned (.bool r) ∧ (r = true → P) ∧ Below w.heap.size w w'
theorem no_yes {P : Prop} : false = true → P := fun h => (by cases h)

set_option maxRecDepth 8000 in
set_option maxHeartbeats 4000000 in
theorem enterFits_any (held of_ ol : Int) (hl : Bool) (aF aL aM : Option Addr) (n m k cF cL cM : Nat) (head pos span : Int) (F L more : List Int) (w : World) (hF : F.length = n) (hL : L.length = m) (hM : more.length = k) (hn : n ≤ 65536) (hm : m ≤ 65536) (hk : k ≤ 65536) (hh : held ≤ 9223372036854775807)
    (rF : Row w aF F) (rL : Row w aL L) (rM : Row w aM more) :
    Calls Try.prog 17 #[.int .i64 held, .int .i64 of_, .int .i64 ol, .bool hl, .slice aF n cF, .slice aL m cL, .int .i64 head, .int .i64 pos, .slice aM k cM, .int .i64 span] w fun e w' => Yes (∃ low, EFit held hl F L head pos more span (absR held of_ ol F L head.toNat) low) w e w' := by
  have HF : Hid (F.length = n ∧ L.length = m ∧ Row w aF F ∧ Row w aL L) := ⟨hF, hL, rF, rL⟩
  have HM : Hid (more.length = k ∧ Row w aM more) := ⟨hM, rM⟩
  clear hF hL rF rL hM rM
  by_cases hs1 : span < 1
  · go_enter Try.func17, Try.ntmps17
    go_wp2
    go_ret
    exact ⟨false, rfl, no_yes, Below.refl _ _⟩
  have hs1' : 1 ≤ span := by omega
  have hs1d : decide (span < 1) = false := by simp; omega
  by_cases hs2 : 4611686018427387903 < span
  · go_enter Try.func17, Try.ntmps17
    go_wp2
    go_ret
    exact ⟨false, rfl, no_yes, Below.refl _ _⟩
  have hs2' : span ≤ 4611686018427387903 := by omega
  have hs2d : decide (4611686018427387903 < span) = false := by simp; omega
  clear hs1 hs2
  by_cases hnm : n = m
  · subst hnm
    go_enter Try.func17, Try.ntmps17
    go_wp2_with fail
    refine (shape_any held hl n head w (by omega) (by omega) hh).mono ?_
    rintro e w' ⟨r, rfl, hr, q, rfl⟩
    cases r
    · clear hr
      go_wp2
      go_ret
      exact ⟨false, rfl, no_yes, below_draw (Below.refl _ _) _⟩
    · have hs := hr.1 rfl
      obtain ⟨hd, rfl⟩ : ∃ hd : Nat, head = (hd : Int) := ⟨head.toNat, by have := hs.2.1; omega⟩
      have hhd : hd ≤ n := by have := hs.2.2.1; omega
      have HS : Hid (shapeP held hl n hd) := hs
      clear hr hs
      go_wp2_with fail
      refine (abs_any held of_ ol aF aL n cF cL hd F L (w.drewN q) HF.out.1 HF.out.2.1 (by omega) hhd HF.out.2.2.1 HF.out.2.2.2).mono ?_
      rintro e w2 ⟨a, na, cap, rfl, hna, ho, hb⟩
      obtain ⟨A, hA⟩ : ∃ A, absR held of_ ol F L hd = A := ⟨_, rfl⟩
      have hk6 : na ≤ 65537 := by have := absR_len (held := held) (of_ := of_) (ol := ol) (hd := hd) HF.out.1 HF.out.2.1; omega
      rw [hA] at ho hna
      have HA : Hid (absR held of_ ol F L hd = A) := hA
      have HB : Hid (Below w.heap.size w w2) := (below_draw (Below.refl _ _) q).trans hb
      have HO : Hid (w2.ownsRow w.heap.size 35 2 (.slice a na cap) na (rcells A)) := ho
      have HNA : Hid (na = A.length) := hna
      have HM2 : Hid (Row w2 aM more) := HM.out.2.below HB.out
      clear ho hb hna hA
      go_wp2_with fail
      refine (ordered_any a na cap w.heap.size A w2 HNA.out.symm (by omega) HO.out).mono ?_
      rintro e w3 ⟨r, rfl, hr, q3, rfl⟩
      cases r
      · clear hr
        go_wp2
        go_ret
        exact ⟨false, rfl, no_yes, below_draw HB.out _⟩
      · have HORD : Hid (ordP A) := hr.1 rfl
        clear hr
        have HB3 : Hid (Below w.heap.size w (w2.drewN q3)) := below_draw HB.out q3
        have HO3 : Hid ((w2.drewN q3).ownsRow w.heap.size 35 2 (.slice a na cap) na (rcells A)) := HO.out
        have HM3 : Hid (Row (w2.drewN q3) aM more) := HM2.out
        clear HO HM2 HB
        generalize w2.drewN q3 = w3 at *
        go_upto_if 57 with fail
        go_cut [22, 57] from 58 to 80 (fun s _ wx => ∃ low : Int, s = .int .i64 low ∧ wx = w3 ∧ 0 ≤ low ∧ low ≤ 4611686018427387903 ∧ Hid ((1 ≤ A.length → 0 ≤ fs A 0 ∧ ls A (A.length - 1) < 4611686018427387903 ∧ low = ls A (A.length - 1) + 1) ∧ (A.length = 0 → low = 0)))
        case first =>
          by_cases h0 : na = 0
          · subst h0
            go_wp2
            go_meet
            case rel => exact ⟨0, rfl, rfl, by omega, by omega, fun h => by have := HNA.out; omega, fun _ => rfl⟩
          · obtain ⟨g, rfl, _, _, hc, _⟩ := owns_at HO3.out (by omega)
            obtain ⟨x0, _⟩ := run_cell HNA.out.symm hc (show 0 < na by omega)
            obtain ⟨_, y1⟩ := run_cell HNA.out.symm hc (show na - 1 < na by omega)
            rw [Nat.zero_mul] at x0
            have b0 : (0 : Int) < (na : Int) := by omega
            have b1 : (0 : Int) ≤ (na : Int) - 1 := by omega
            obtain ⟨f0, hf0⟩ : ∃ z, fs A 0 = z := ⟨_, rfl⟩
            obtain ⟨l0, hl0⟩ : ∃ z, ls A (na - 1) = z := ⟨_, rfl⟩
            rw [hf0] at x0
            rw [hl0] at y1
            have HV : Hid (fs A 0 = f0 ∧ ls A (A.length - 1) = l0) := ⟨hf0, by rw [← HNA.out]; exact hl0⟩
            have hpos : f0 ≤ l0 := ord_ends HORD.out HNA.out.symm (by omega) hf0 hl0
            clear hc hf0 hl0 h0
            by_cases h1 : f0 < 0
            · go_wp2
              go_ret
              exact ⟨false, rfl, no_yes, HB3.out⟩
            · have h1d : decide (f0 < 0) = false := by simp; omega
              by_cases h2 : 4611686018427387903 ≤ l0
              · go_wp2
                go_ret
                exact ⟨false, rfl, no_yes, HB3.out⟩
              · have h2d : decide (4611686018427387903 ≤ l0) = false := by simp; omega
                have h2' : l0 < 4611686018427387903 := by omega
                go_wp2
                go_meet
                case rel => exact ⟨l0 + 1, rfl, rfl, by omega, by omega, fun _ => ⟨by rw [HV.out.1]; omega, by rw [HV.out.2]; omega, by rw [HV.out.2]⟩, fun h => by have := HNA.out; omega⟩
        case rest =>
          obtain ⟨low, rfl, rfl, hlow0, hlow1, HLOW⟩ := hcut
          by_cases h3 : pos < low
          · go_wp2
            go_ret
            exact ⟨false, rfl, no_yes, HB3.out⟩
          · have h3d : decide (pos < low) = false := by simp; omega
            by_cases h4 : 4611686018427387903 < pos
            · go_wp2
              go_ret
              exact ⟨false, rfl, no_yes, HB3.out⟩
            · have h4d : decide (4611686018427387903 < pos) = false := by simp; omega
              go_wp2
              go_loopw [23, 24] (fun v i wr => ∃ j : Nat, j ≤ k ∧ i = .int .i64 j ∧ v = .int .i64 (if j = 0 then pos else more[j - 1]?.getD 0) ∧ wr = wc ∧ Hid (∀ i, i < j → (if i = 0 then pos else more[i - 1]?.getD 0) < more[i]?.getD 0 ∧ more[i]?.getD 0 ≤ 4611686018427387903)) (fun _ i _ => k - (intOf i).toNat)
              case atStart => exact ⟨0, by omega, rfl, rfl, rfl, fun i hi => by omega⟩
              case round =>
                obtain ⟨j, hjk, rfl, rfl, rfl, HJ⟩ := hrel
                by_cases hlt : j < k
                · obtain ⟨b, o, rfl, hcl⟩ := HM3.out.at HM.out.1 hlt
                  have b0 : (j : Int) < (k : Int) := by omega
                  obtain ⟨mj, hmj⟩ : ∃ z, more[j]?.getD 0 = z := ⟨_, rfl⟩
                  obtain ⟨pj, hpj⟩ : ∃ z, (if j = 0 then pos else more[j - 1]?.getD 0) = z := ⟨_, rfl⟩
                  rw [hmj] at hcl
                  rw [hpj]
                  have HV : Hid (more[j]?.getD 0 = mj ∧ (if j = 0 then pos else more[j - 1]?.getD 0) = pj) := ⟨hmj, hpj⟩
                  clear hmj hpj
                  by_cases h5 : mj ≤ pj
                  · go_wp2
                    go_ret
                    exact ⟨false, rfl, no_yes, HB3.out⟩
                  · have h5d : decide (mj ≤ pj) = false := by simp; omega
                    by_cases h6 : 4611686018427387903 < mj
                    · go_wp2
                      go_ret
                      exact ⟨false, rfl, no_yes, HB3.out⟩
                    · have h6d : decide (4611686018427387903 < mj) = false := by simp; omega
                      go_wp2
                      go_roundw
                      case rel =>
                        refine ⟨j + 1, by omega, by go_num, ?_, trivial, fun i hi => ?_⟩
                        · rw [if_neg (by omega), show j + 1 - 1 = j by omega, HV.out.1]
                        · by_cases e : i = j
                          · subst e; rw [HV.out.1, HV.out.2]; omega
                          · exact HJ.out i (by omega)
                      case measure => simp [intOf]; omega
                · have hj : j = k := by omega
                  subst hj
                  obtain ⟨pj, hpj⟩ : ∃ z, (if j = 0 then pos else more[j - 1]?.getD 0) = z := ⟨_, rfl⟩
                  rw [hpj]
                  clear hpj
                  go_wp2
                  go_ret
                  refine ⟨true, rfl, fun _ => ⟨low, ?_⟩, HB3.out⟩
                  rw [Int.toNat_natCast, HA.out]
                  exact ⟨hs1', hs2', HF.out.1.trans HF.out.2.1.symm, by rw [HF.out.1]; exact HS.out, HORD.out, HLOW.out.1, HLOW.out.2, by omega, by omega, by rw [HM.out.1]; exact HJ.out⟩
  · have hb : ((n : Int) != (m : Int)) = true := by rw [bne_iff_ne]; omega
    go_enter Try.func17, Try.ntmps17
    go_wp2
    go_ret
    exact ⟨false, rfl, no_yes, Below.refl _ _⟩

set_option maxHeartbeats 1000000 in
theorem bytes16 (held of_ ol : Int) (hl : Bool) (aF aL aM : Option Addr) (n m k cF cL cM : Nat) (head pos span : Int) (w : World) (hn : n ≤ 9223372036854775807) (hm : m ≤ 9223372036854775807) (hk : k ≤ 9223372036854775807) :
    Calls Try.prog 16 #[.int .i64 held, .int .i64 of_, .int .i64 ol, .bool hl, .slice aF n cF, .slice aL m cL, .int .i64 head, .int .i64 pos, .slice aM k cM, .int .i64 span] w fun e w' => SomeBool w e w' := by
  go_enter Try.func16, Try.ntmps16
  go_wp2
  all_goals
    go_ret
    exact ⟨_, rfl, rfl⟩
end Go.Proofs.Qxb6618191a
