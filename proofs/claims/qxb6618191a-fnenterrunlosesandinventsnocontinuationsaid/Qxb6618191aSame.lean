/-
  sameRuns (function 14).
-/
import Derived.Test.Qxb6618191aAbs
import Derived.Laws.StructEq
namespace Go.Proofs.Qxb6618191a
open Go.RowKit
theorem stood35 : Try.prog.stoodInHeld 35 = false := by kernel_rfl
theorem guard35 : Try.prog.eqGuardType Try.prog.depth 35 = false := by kernel_rfl
theorem fields35 : Try.prog.underlying 35 = some (.struct (Try.prog.fieldsOf 35)) := by kernel_rfl
theorem neq35 (a b c d : Int) (w : World) : (binOp .neq 35 (.agg #[.int .i64 a, .int .i64 b]) (.agg #[.int .i64 c, .int .i64 d])).run Try.prog w = .ok (.bool (!(a == c && b == d))) w := by
  rw [run_neq_struct, run_equalIn_agg w 9999 35 _ _ fields35 stood35]
  have hf : Try.prog.fieldsOf 35 = #[{ name := "First", type := 3, offset := 0, embedded := false, tag := "", pkgPath := "", byteOffset := 0 }, { name := "Last", type := 3, offset := 1, embedded := false, tag := "", pkgPath := "", byteOffset := 8 }] := by kernel_rfl
  rw [hf]
  simp [Op.eqFields, go_sem, Result.andThen]
  by_cases h1 : a = c <;> by_cases h2 : b = d <;> simp [h1, h2]

theorem same_of {ra rb : List (Int × Int)} {n : Nat} (ha : ra.length = n) (hb : rb.length = n) (h : ∀ j, j < n → fs ra j = fs rb j ∧ ls ra j = ls rb j) : ra = rb := by
  apply List.ext_getElem?
  intro i
  by_cases hi : i < n
  · rw [run_at ha hi, run_at hb hi, (h i hi).1, (h i hi).2]
  · rw [List.getElem?_eq_none (by omega), List.getElem?_eq_none (by omega)]

set_option maxHeartbeats 1000000 in
theorem sameRuns_any (a b : Option Addr) (n m ca cb B1 B2 : Nat) (ra rb : List (Int × Int)) (w : World) (ha : ra.length = n) (hb : rb.length = m) (hn6 : n ≤ 1000000) (hm6 : m ≤ 1000000)
    (oa : w.ownsRow B1 35 2 (.slice a n ca) n (rcells ra)) (ob : w.ownsRow B2 35 2 (.slice b m cb) m (rcells rb)) :
    Calls Try.prog 14 #[.slice a n ca, .slice b m cb] w fun e w' => Says (ra = rb) w e w' := by
  have HA : Hid (ra.length = n ∧ rb.length = m) := ⟨ha, hb⟩
  have HO : Hid (w.ownsRow B1 35 2 (.slice a n ca) n (rcells ra) ∧ w.ownsRow B2 35 2 (.slice b m cb) m (rcells rb)) := ⟨oa, ob⟩
  clear ha hb oa ob
  by_cases hnm : n = m
  · subst hnm
    go_enter Try.func14, Try.ntmps14
    go_wp2
    go_loopw [5] (fun i wr => ∃ k q : Nat, k ≤ n ∧ i = .int .i64 k ∧ wr = w.drewN q ∧ Hid (∀ j, j < k → fs ra j = fs rb j ∧ ls ra j = ls rb j)) (fun i _ => n - (intOf i).toNat)
    case atStart => exact ⟨0, 0, by omega, rfl, rfl, fun i hi => by omega⟩
    case round =>
      obtain ⟨k, q, hkn, rfl, rfl, HE⟩ := hrel
      by_cases hlt : k < n
      · obtain ⟨g1, rfl, _, _, h1, _⟩ := owns_at HO.out.1 (by omega)
        obtain ⟨g2, rfl, _, _, h2, _⟩ := owns_at HO.out.2 (by omega)
        obtain ⟨c0, c1⟩ := run_cell HA.out.1 h1 hlt
        obtain ⟨d0, d1⟩ := run_cell HA.out.2 h2 hlt
        have b0 : (k : Int) < (n : Int) := by omega
        have hne := neq35
        have hg := guard35
        clear h1 h2
        go_wp2
        go_quiet (fail)
        go_wp2
        · have hx : (!fs ra k == fs rb k) = true ∨ (!ls ra k == ls rb k) = true := by assumption
          go_ret
          exact ⟨false, rfl, iff_no (fun h => by subst h; simp at hx), _, drew2 _ _ _⟩
        · have hx : (!fs ra k == fs rb k) = false ∧ (!ls ra k == ls rb k) = false := by assumption
          have hy : fs ra k = fs rb k ∧ ls ra k = ls rb k := by simpa using hx
          go_roundw
          case rel =>
            refine ⟨k + 1, _, by omega, by go_num, rfl, fun i hi => ?_⟩
            by_cases e : i = k
            · subst e; exact hy
            · exact HE.out i (by omega)
          case measure => simp [intOf]; omega
      · go_wp2
        go_ret
        have hk : k = n := by omega
        subst hk
        refine ⟨true, rfl, iff_yes (same_of HA.out.1 HA.out.2 HE.out), _, rfl⟩
  · have hb : ((n : Int) != (m : Int)) = true := by rw [bne_iff_ne]; omega
    go_enter Try.func14, Try.ntmps14
    go_wp2
    go_ret
    exact ⟨false, rfl, iff_no (fun h => hnm (by have := HA.out; rw [h] at this; omega)), 0, rfl⟩
end Go.Proofs.Qxb6618191a
