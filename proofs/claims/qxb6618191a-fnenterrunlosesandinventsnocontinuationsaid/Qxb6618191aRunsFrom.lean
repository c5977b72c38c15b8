/-
  runsFrom (function 12).
-/
import Derived.Test.Qxb6618191aSame
namespace Go.Proofs.Qxb6618191a
open Go.RowKit

/-- What runsFrom keeps. -/
def keepR (rs : List (Int × Int)) (pos : Int) : List (Int × Int) := rs.filter (fun x => decide (pos ≤ x.2))
theorem keep_len (rs : List (Int × Int)) (pos : Int) : (keepR rs pos).length ≤ rs.length := List.length_filter_le _ _
theorem keep_yes {rs : List (Int × Int)} {n k : Nat} {pos : Int} (hn : rs.length = n) (hk : k < n) (h : pos ≤ ls rs k) : keepR (rs.take (k + 1)) pos = keepR (rs.take k) pos ++ [(fs rs k, ls rs k)] := by
  obtain ⟨h3, h4⟩ := List.getElem?_eq_some_iff.1 (run_at hn hk)
  unfold keepR
  rw [List.take_succ_eq_append_getElem h3, h4, List.filter_append]
  simp [h]
theorem keep_no {rs : List (Int × Int)} {n k : Nat} {pos : Int} (hn : rs.length = n) (hk : k < n) (h : ls rs k < pos) : keepR (rs.take (k + 1)) pos = keepR (rs.take k) pos := by
  obtain ⟨h3, h4⟩ := List.getElem?_eq_some_iff.1 (run_at hn hk)
  unfold keepR
  rw [List.take_succ_eq_append_getElem h3, h4, List.filter_append]
  simp
  omega

set_option maxHeartbeats 1000000 in
theorem runsFrom_any (a : Option Addr) (n ca B1 : Nat) (pos : Int) (rs : List (Int × Int)) (w : World) (hn : rs.length = n) (hn6 : n ≤ 200000) (oa : w.ownsRow B1 35 2 (.slice a n ca) n (rcells rs)) :
    Calls Try.prog 12 #[.slice a n ca, .int .i64 pos] w fun e w' => ∃ a' m cap, e = .returned (.slice a' m cap) ∧ m = (keepR rs pos).length ∧
      w'.ownsRow w.heap.size 35 2 (.slice a' m cap) m (rcells (keepR rs pos)) ∧ Below w.heap.size w w' := by
  have HF : Hid (rs.length = n ∧ w.ownsRow B1 35 2 (.slice a n ca) n (rcells rs)) := ⟨hn, oa⟩
  clear hn oa
  have hmk : ∀ w : World, (Instr.makeSlice 25 (.int .i64 0) (.int .i64 (n : Int))).run Try.prog w = .ok (.slice (some ⟨w.heap.size, 0, none⟩) 0 n) (w.alloc (.cells (madeCells #[.int .i64 0, .int .i64 0] (n * 2)) 35)) := fun w => made_runs ty25 0 n w (by omega) (by omega)
  have HO1 : Hid ((w.alloc (.cells (madeCells #[.int .i64 0, .int .i64 0] (n * 2)) 35)).ownsRow w.heap.size 35 2 (.slice (some ⟨w.heap.size, 0, none⟩) 0 n) 0 (rcells [])) := owns_made w 35 n _ (Nat.le_refl _) (by omega)
  go_enter Try.func12, Try.ntmps12
  go_wp2
  go_loopw [5, 6] (fun o i wr => ∃ (k : Nat) (a1 : Option Addr) (m c1 : Nat), k ≤ n ∧ i = .int .i64 k ∧ o = .slice a1 m c1 ∧ m ≤ k ∧ Hid (wr.ownsRow w.heap.size 35 2 (.slice a1 m c1) m (rcells (keepR (rs.take k) pos))) ∧ Hid (Below w.heap.size w wr)) (fun _ i _ => n - (intOf i).toNat)
  case atStart => exact ⟨0, _, 0, n, by omega, rfl, rfl, by omega, by simpa [keepR] using HO1, (Below.refl _ _).alloc (Nat.le_refl _) _⟩
  case round =>
    obtain ⟨k, a2, m, c2, hk1, rfl, rfl, hmk1, HO, HB⟩ := hrel
    clear HO1 hmk
    by_cases hlt : k < n
    · obtain ⟨g, rfl, _, hgs, hc, _⟩ := owns_at HF.out.2 (by omega)
      obtain ⟨c0, c1⟩ := run_cell HF.out.1 hc hlt
      have b0 : (k : Int) < (n : Int) := by omega
      have q0 : wr.cell? ⟨g, k * 2, none⟩ = some (.int .i64 (fs rs k)) := by rw [HB.out.cell (p := ⟨g, k * 2, none⟩) hgs]; exact c0
      have q1 : wr.cell? ⟨g, k * 2 + 1, none⟩ = some (.int .i64 (ls rs k)) := by rw [HB.out.cell (p := ⟨g, k * 2 + 1, none⟩) hgs]; exact c1
      have hsz := HB.out.size
      clear hc c0 c1
      by_cases hp : pos ≤ ls rs k
      · have hkn : m ≤ 1000000 := by omega
        have HOd : Hid ((wr.alloc (.cells #[.int .i64 (fs rs k), .int .i64 (ls rs k)] 35)).ownsRow w.heap.size 35 2 (.slice a2 m c2) m (rcells (keepR (rs.take k) pos))) := HO.out.alloc _
        have HNb : Hid ((wr.alloc (.cells #[.int .i64 (fs rs k), .int .i64 (ls rs k)] 35)).heap[wr.heap.size]? = some (.cells #[.int .i64 (fs rs k), .int .i64 (ls rs k)] 35 (0, 0))) := heap_alloc_new _ _
        have HBz : Hid (w.heap.size ≤ (wr.alloc (.cells #[.int .i64 (fs rs k), .int .i64 (ls rs k)] 35)).heap.size) := by show w.heap.size ≤ (wr.alloc _).heap.size; simp; omega
        go_wp2_with (at_builtin; refine wpList_append_run _ (by rfl) _ _ ty25 (by rfl) w.heap.size (.slice a2 m c2) m _ (by rfl) wr.heap.size (fs rs k) (ls rs k) (by rfl) HOd.out HNb.out hkn HBz.out ?_)
        intro v2 w2 H2 G2
        obtain ⟨a3, c3, hv3⟩ := owns_slice H2.out
        subst hv3
        have HB3 : Hid (Below w.heap.size w w2) := (HB.out.alloc hsz _).grown G2.out HBz.out (fun j hj => (HOd.out.lt j hj).1)
        have HO3 : Hid (w2.ownsRow w.heap.size 35 2 (.slice a3 (m + 1) c3) (m + 1) (rcells (keepR (rs.take (k + 1)) pos))) := by
          show w2.ownsRow _ _ _ _ _ _
          rw [keep_yes HF.out.1 hlt hp]
          exact H2.out
        clear H2 G2 HOd HNb HBz
        go_wp2
        go_roundw
        case rel => exact ⟨k + 1, a3, m + 1, c3, by omega, by go_num, rfl, by omega, HO3, HB3⟩
        case measure => simp [intOf]; omega
      · have hp2 : ls rs k < pos := by omega
        have HO3 : Hid (wr.ownsRow w.heap.size 35 2 (.slice a2 m c2) m (rcells (keepR (rs.take (k + 1)) pos))) := by
          show wr.ownsRow _ _ _ _ _ _
          rw [keep_no HF.out.1 hlt hp2]
          exact HO.out
        clear hp
        go_wp2
        go_roundw
        case rel => exact ⟨k + 1, a2, m, c2, by omega, by go_num, rfl, by omega, HO3, HB⟩
        case measure => simp [intOf]; omega
    · have hk : k = n := by omega
      subst hk
      go_wp2
      go_ret
      have ho := HO.out
      rw [List.take_of_length_le (by have := HF.out.1; omega)] at ho
      exact ⟨a2, m, c2, rfl, by have := ho.1; rw [rcells_length] at this; omega, ho, HB.out⟩
end Go.Proofs.Qxb6618191a
