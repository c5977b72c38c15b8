/-
  entriesShape (function 13) and orderedRuns (function 19).
-/
import Derived.Test.Qxb6618191aBase
namespace Go.Proofs.Qxb6618191a
open Go.RowKit

/-- A call that answers whether P, and leaves the world as it was but for draws. -/
def Says (P : Prop) (w : World) (e : Ending) (w' : World) : Prop := ∃ r : Bool, e = .returned (.bool r) ∧ (r = true ↔ P) ∧ ∃ q, w' = w.drewN q

theorem drew2 (w : World) (a b : Nat) : (w.drewN a).drewN b = w.drewN (a + b) := by simp
theorem drew3 (w : World) (a b c : Nat) : ((w.drewN a).drewN b).drewN c = w.drewN (a + b + c) := by simp
theorem iff_no {P : Prop} (h : ¬ P) : (false = true ↔ P) := ⟨fun e => (by cases e), fun p => absurd p h⟩
theorem iff_yes {P : Prop} (h : P) : (true = true ↔ P) := ⟨fun _ => h, fun _ => rfl⟩

/-- entriesShape, plainly. -/
def shapeP (held : Int) (hl : Bool) (nl head : Int) : Prop :=
  0 ≤ held ∧ 0 ≤ head ∧ head ≤ nl ∧ (hl = false → nl = 0 ∧ head = 0) ∧ (held = 0 → nl = head) ∧ (held ≠ 0 → held - 1 = nl - head)

set_option maxHeartbeats 1000000 in
theorem shape_any (held : Int) (hl : Bool) (nl head : Int) (w : World) (h0 : 0 ≤ nl) (h1 : nl ≤ 65536) (h2 : held ≤ 9223372036854775807) :
    Calls Try.prog 13 #[.int .i64 held, .bool hl, .int .i64 nl, .int .i64 head] w fun e w' => Says (shapeP held hl nl head) w e w' := by
  cases hl
  all_goals
    go_enter Try.func13, Try.ntmps13
    go_wp2
    all_goals
      go_ret
      refine ⟨_, rfl, ?_, 0, rfl⟩
      simp at *
      simp [shapeP]
      omega

def fs (rs : List (Int × Int)) (i : Nat) : Int := (rs[i]?.getD (0, 0)).1
def ls (rs : List (Int × Int)) (i : Nat) : Int := (rs[i]?.getD (0, 0)).2
theorem run_at {rs : List (Int × Int)} {n i : Nat} (hn : rs.length = n) (hi : i < n) : rs[i]? = some (fs rs i, ls rs i) := by
  have h : i < rs.length := by omega
  simp [fs, ls, h]
theorem run_cell {w : World} {g n : Nat} {rs : List (Int × Int)} (hn : rs.length = n) (hc : ∀ j, j < n * 2 → w.cell? ⟨g, j, none⟩ = (rcells rs)[j]?) {i : Nat} (hi : i < n) :
    w.cell? ⟨g, i * 2, none⟩ = some (.int .i64 (fs rs i)) ∧ w.cell? ⟨g, i * 2 + 1, none⟩ = some (.int .i64 (ls rs i)) := by
  have := rcells_at (run_at hn hi)
  exact ⟨by rw [hc _ (by omega)]; exact this.1, by rw [hc _ (by omega)]; exact this.2⟩

/-- orderedRuns, plainly. -/
def ordTo (rs : List (Int × Int)) (n : Nat) : Prop := ∀ i, i < n → fs rs i ≤ ls rs i ∧ (0 < i → ls rs (i - 1) < fs rs i)
def ordP (rs : List (Int × Int)) : Prop := ordTo rs rs.length

set_option maxHeartbeats 1000000 in
theorem ordered_any (a : Option Addr) (n cap base : Nat) (rs : List (Int × Int)) (w : World) (hn : rs.length = n) (hn6 : n ≤ 131072) (hr : w.ownsRow base 35 2 (.slice a n cap) n (rcells rs)) :
    Calls Try.prog 19 #[.slice a n cap] w fun e w' => Says (ordP rs) w e w' := by
  have HN : Hid (rs.length = n) := hn
  have HR : Hid (w.ownsRow base 35 2 (.slice a n cap) n (rcells rs)) := hr
  clear hn hr
  go_enter Try.func19, Try.ntmps19
  go_wp2
  go_loopw [3] (fun i wr => ∃ k m : Nat, k ≤ n ∧ i = .int .i64 k ∧ wr = w.drewN m ∧ Hid (ordTo rs k)) (fun i _ => n - (intOf i).toNat)
  case atStart => exact ⟨0, 0, by omega, rfl, rfl, fun i hi => by omega⟩
  case round =>
    obtain ⟨k, m, hkn, rfl, rfl, HO⟩ := hrel
    by_cases hlt : k < n
    · obtain ⟨g, rfl, _, _, hc, _⟩ := owns_at HR.out (by omega)
      obtain ⟨c0, c1⟩ := run_cell HN.out hc hlt
      have b0 : (k : Int) < (n : Int) := by omega
      by_cases hk0 : 0 < k
      · obtain ⟨d0, d1⟩ := run_cell HN.out hc (show k - 1 < n by omega)
        have b1 : (0 : Int) ≤ (k : Int) - 1 := by omega
        have b2 : (0 : Int) < (k : Int) := by omega
        clear hc
        go_wp2
        go_quiet (fail)
        go_wp2
        · have hx : ls rs k < fs rs k := by assumption
          go_ret
          exact ⟨false, rfl, iff_no (fun h => by have := (h k (by have := HN.out; omega)).1; omega), _, drew2 _ _ _⟩
        · have hy : fs rs k ≤ ls rs k := by assumption
          go_quiet (fail)
          go_wp2
          · have hx : fs rs k ≤ ls rs (k - 1) := by assumption
            go_ret
            exact ⟨false, rfl, iff_no (fun h => by have := (h k (by have := HN.out; omega)).2 hk0; omega), _, drew3 _ _ _ _⟩
          · have hx : ls rs (k - 1) < fs rs k := by assumption
            go_roundw
            case rel =>
              refine ⟨k + 1, _, by omega, by go_num, rfl, fun i hi => ?_⟩
              by_cases e : i = k
              · subst e; exact ⟨hy, fun _ => hx⟩
              · exact HO.out i (by omega)
            case measure => simp [intOf]; omega
      · have hk : k = 0 := by omega
        subst hk
        clear hc
        have b2 : decide ((0 : Int) < ((0 : Nat) : Int)) = false := by simp
        go_wp2
        go_quiet (fail)
        go_wp2
        · have hx : ls rs 0 < fs rs 0 := by assumption
          go_ret
          exact ⟨false, rfl, iff_no (fun h => by have := (h 0 (by have := HN.out; omega)).1; omega), _, drew2 _ _ _⟩
        · have hy : fs rs 0 ≤ ls rs 0 := by assumption
          go_quiet (fail)
          go_wp2
          go_roundw
          case rel =>
            refine ⟨1, _, by omega, by go_num, rfl, fun i hi => ?_⟩
            have e : i = 0 := by omega
            subst e
            exact ⟨hy, fun h => by omega⟩
          case measure => simp [intOf]; omega
    · go_wp2
      go_ret
      have hk : k = n := by omega
      subst hk
      exact ⟨true, rfl, iff_yes (by have := HO.out; unfold ordP; rw [HN.out]; exact this), _, rfl⟩
end Go.Proofs.Qxb6618191a
