/-
  The entries in memory; ZZNewEntries (function 9).
-/
import Derived.Test.Qxb6618191aFits
namespace Go.Proofs.Qxb6618191a
open Go.RowKit

/-- The entries at block e: held, the oldest run, and the later runs from head on. Nothing of them lies below B. -/
def Ent (B : Nat) (w : World) (e : Nat) (held of_ ol : Int) (hl : Bool) (rs : List (Int × Int)) (hd : Nat) : Prop :=
  B ≤ e ∧ ((hl = false ∧ rs = [] ∧ hd = 0 ∧ w.heap[e]? = some (.cells #[.int .i64 held, .int .i64 of_, .int .i64 ol, .pointer none] 48 (0, 0))) ∨
    (hl = true ∧ ∃ r a cap, B ≤ r ∧ w.heap[e]? = some (.cells #[.int .i64 held, .int .i64 of_, .int .i64 ol, .pointer (some ⟨r, 0, none⟩)] 48 (0, 0)) ∧
      w.heap[r]? = some (.cells #[.slice a rs.length cap, .int .i64 hd] 51 (0, 0)) ∧ w.ownsRow B 45 2 (.slice a rs.length cap) rs.length (rcells rs)))

def Lst (w : World) (g n k : Nat) (rs : List (Int × Int)) : Prop := ∃ C : Array Value, w.heap[g]? = some (.cells C 45 (0, 0)) ∧ C.size = n * 2 ∧ C.toList.take (k * 2) = rcells (rs.take k)

theorem set_two {C : Array Value} {n k : Nat} (hs : C.size = n * 2) (hk : k < n) (x y : Value) :
    ((C.setIfInBounds (k * 2) x).setIfInBounds (k * 2 + 1) y).toList.take ((k + 1) * 2) = C.toList.take (k * 2) ++ [x, y] := by
  have hl : C.toList.length = n * 2 := by simpa using hs
  apply List.ext_getElem?
  intro i
  rw [List.getElem?_take, List.getElem?_append]
  simp only [Array.toList_setIfInBounds, List.getElem?_set, List.length_set, List.length_take, hl]
  by_cases h1 : i < k * 2
  · rw [if_pos (by omega), if_neg (by omega), if_neg (by omega), if_pos (by omega), List.getElem?_take, if_pos h1]
  · by_cases h2 : i = k * 2
    · subst h2
      rw [if_pos (by omega), if_neg (by omega), if_pos rfl, if_pos (by omega), if_neg (by omega)]
      rw [Nat.min_eq_left (by omega), Nat.sub_self]; rfl
    · by_cases h3 : i = k * 2 + 1
      · subst h3
        rw [if_pos (by omega), if_pos rfl, if_pos (by omega), if_neg (by omega)]
        rw [Nat.min_eq_left (by omega), show k * 2 + 1 - k * 2 = 1 by omega]; rfl
      · rw [if_neg (by omega), if_neg (by omega), Nat.min_eq_left (by omega)]
        rw [List.getElem?_eq_none (by simp; omega)]

theorem lst_step {w : World} {g n k : Nat} {rs : List (Int × Int)} {x : Int × Int} (h : Lst w g n k rs) (hk : k < n) (hx : rs[k]? = some x) :
    Lst ((w.setCell ⟨g, k * 2, none⟩ (.int .i64 x.1)).setCell ⟨g, k * 2 + 1, none⟩ (.int .i64 x.2)) g n (k + 1) rs := by
  obtain ⟨C, h1, h2, h3⟩ := h
  refine ⟨_, heap_set_at (heap_set_at h1 _ _) _ _, by simp [h2], ?_⟩
  rw [set_two h2 hk, h3]
  obtain ⟨h4, h5⟩ := List.getElem?_eq_some_iff.1 hx
  rw [List.take_succ_eq_append_getElem h4, h5, rcells_append]
  rfl

theorem lst_cell {w : World} {g n k : Nat} {rs : List (Int × Int)} (h : Lst w g n k rs) {i : Nat} (hi : i < n * 2) : ∃ u, w.cell? ⟨g, i, none⟩ = some u := by
  obtain ⟨C, h1, h2, _⟩ := h
  rw [cell_of_heap h1]
  exact getElem?_lt (by omega)

theorem lst_frozen {w : World} {g n k : Nat} {rs : List (Int × Int)} (h : Lst w g n k rs) (i : Nat) : w.frozen? ⟨g, i, none⟩ = false := by
  obtain ⟨C, h1, _, _⟩ := h
  exact frozen_of_heap h1 i

theorem lst_owns {w : World} {g n B : Nat} {rs : List (Int × Int)} (h : Lst w g n n rs) (hn : rs.length = n) (hm : n ≤ 1000000) (hB : B ≤ g) : w.ownsRow B 45 2 (.slice (some ⟨g, 0, none⟩) n n) n (rcells rs) := by
  obtain ⟨C, h1, h2, h3⟩ := h
  refine ⟨by rw [rcells_length, hn], .inr ⟨g, n, C, rfl, hB, h1, Nat.le_refl _, by unfold maxLen; omega, h2, ?_⟩⟩
  rw [h3, List.take_of_length_le (by omega)]

/-- How memory stands within ZZNewEntries, k runs laid. -/
structure NewI (w wr : World) (held of_ ol : Int) (n k : Nat) (rs : List (Int × Int)) : Prop where
  size : wr.heap.size = w.heap.size + 2
  ent : wr.heap[w.heap.size]? = some (.cells #[.int .i64 held, .int .i64 of_, .int .i64 ol, .pointer none] 48 (0, 0))
  lst : Lst wr (w.heap.size + 1) n k rs
  below : Below w.heap.size w wr

theorem NewI.step {w wr : World} {held of_ ol : Int} {n k : Nat} {rs : List (Int × Int)} (h : NewI w wr held of_ ol n k rs) (hk : k < n) {x y : Int} (hx : rs[k]? = some (x, y)) :
    NewI w ((wr.setCell ⟨w.heap.size + 1, k * 2, none⟩ (.int .i64 x)).setCell ⟨w.heap.size + 1, k * 2 + 1, none⟩ (.int .i64 y)).drew held of_ ol n (k + 1) rs := by
  have hs := lst_step h.lst hk hx
  generalize hg : w.heap.size + 1 = g at *
  refine ⟨?_, ?_, by rw [hg]; exact hs, ?_⟩
  · rw [← h.size]; simp
  · have h1 := heap_set_other (wr.setCell ⟨g, k * 2, none⟩ (.int .i64 x)) ⟨g, k * 2 + 1, none⟩ (.int .i64 y) w.heap.size (by show w.heap.size ≠ g; omega)
    have h2 := heap_set_other wr ⟨g, k * 2, none⟩ (.int .i64 x) w.heap.size (by show w.heap.size ≠ g; omega)
    exact h1.trans (h2.trans h.ent)
  · exact ((h.below.setCell (p := ⟨g, k * 2, none⟩) (by show w.heap.size ≤ g; omega) _).setCell (p := ⟨g, k * 2 + 1, none⟩) (by show w.heap.size ≤ g; omega) _).drew

theorem NewI.done {w wr : World} {held of_ ol : Int} {n hd : Nat} {rs : List (Int × Int)} (h : NewI w wr held of_ ol n n rs) (hn : rs.length = n) (hm : n ≤ 1000000) :
    Ent w.heap.size ((wr.setCell ⟨w.heap.size, 3, none⟩ (.pointer (some ⟨w.heap.size + 2, 0, none⟩))).alloc (.cells #[.slice (some ⟨w.heap.size + 1, 0, none⟩) n n, .int .i64 hd] 51)) w.heap.size held of_ ol true rs hd ∧
      Below w.heap.size w ((wr.setCell ⟨w.heap.size, 3, none⟩ (.pointer (some ⟨w.heap.size + 2, 0, none⟩))).alloc (.cells #[.slice (some ⟨w.heap.size + 1, 0, none⟩) n n, .int .i64 hd] 51)) := by
  have ho := lst_owns h.lst hn hm (B := w.heap.size) (by omega)
  have hz := h.size
  have he := heap_set_at h.ent 3 (.pointer (some ⟨w.heap.size + 2, 0, none⟩))
  have hb := h.below.setCell (p := ⟨w.heap.size, 3, none⟩) (Nat.le_refl _) (.pointer (some ⟨w.heap.size + 2, 0, none⟩))
  have hz2 : (wr.setCell ⟨w.heap.size, 3, none⟩ (.pointer (some ⟨w.heap.size + 2, 0, none⟩))).heap.size = w.heap.size + 2 := by rw [← hz]; simp
  have ho2 : (wr.setCell ⟨w.heap.size, 3, none⟩ (.pointer (some ⟨w.heap.size + 2, 0, none⟩))).ownsRow w.heap.size 45 2 (.slice (some ⟨w.heap.size + 1, 0, none⟩) n n) n (rcells rs) := by
    refine owns_keep ho (fun b C hC => ?_)
    rw [heap_set_other _ _ _ _ (by show b ≠ w.heap.size; intro hbe; rw [hbe, h.ent] at hC; injection hC with hC; injection hC with _ hC _; cases hC)]
    exact hC
  generalize wr.setCell ⟨w.heap.size, 3, none⟩ (.pointer (some ⟨w.heap.size + 2, 0, none⟩)) = wa at *
  have hne := heap_alloc_new wa (.cells #[.slice (some ⟨w.heap.size + 1, 0, none⟩) n n, .int .i64 hd] 51)
  rw [hz2] at hne
  refine ⟨⟨Nat.le_refl _, .inr ⟨rfl, w.heap.size + 2, some ⟨w.heap.size + 1, 0, none⟩, n, by omega, ?_, ?_, ?_⟩⟩, hb.alloc (by omega) _⟩
  · rw [heap_alloc_old _ _ (by omega), he]; rfl
  · rw [hn]; exact hne
  · rw [hn]; exact ho2.alloc _

set_option maxHeartbeats 1000000 in
theorem new_yes (held of_ ol : Int) (aF aL : Option Addr) (n cF cL hd : Nat) (F L : List Int) (w : World) (hF : F.length = n) (hL : L.length = n) (hn : n ≤ 65536) (rF : Row w aF F) (rL : Row w aL L) :
    Calls Try.prog 9 #[.int .i64 held, .int .i64 of_, .int .i64 ol, .bool true, .slice aF n cF, .slice aL n cL, .int .i64 hd] w fun e w' => e = .returned (.pointer (some ⟨w.heap.size, 0, none⟩)) ∧
      Ent w.heap.size w' w.heap.size held of_ ol true (F.zip L) hd ∧ Below w.heap.size w w' := by
  have HF : Hid (F.length = n ∧ L.length = n ∧ Row w aF F ∧ Row w aL L) := ⟨hF, hL, rF, rL⟩
  clear hF hL rF rL
  have hmk : ∀ w : World, (Instr.makeSlice 49 (.int .i64 (n : Int)) (.int .i64 (n : Int))).run Try.prog w = .ok (.slice (some ⟨w.heap.size, 0, none⟩) n n) (w.alloc (.cells (madeCells #[.int .i64 0, .int .i64 0] (n * 2)) 45)) := fun w => made_runs ty49 n n w (by omega) (by omega)
  go_enter Try.func9, Try.ntmps9
  go_wp2
  go_loopw [30] (fun i wr => ∃ k : Nat, k ≤ n ∧ i = .int .i64 k ∧ Hid (NewI w wr held of_ ol n k (F.zip L))) (fun i _ => n - (intOf i).toNat)
  case atStart =>
    refine ⟨0, by omega, rfl, by simp, ?_, ⟨_, new_two _ _ _, size_madeCells _ _, by simp [rcells]⟩, ((Below.refl _ _).alloc (Nat.le_refl _) _).alloc (by simp) _⟩
    rw [heap_alloc_old _ _ (by simp)]
    exact heap_alloc_new _ _
  case round =>
    obtain ⟨k, hkn, rfl, HW⟩ := hrel
    clear hmk
    by_cases hlt : k < n
    · obtain ⟨b1, o1, rfl, e1⟩ := HF.out.2.2.1.at HF.out.1 hlt
      obtain ⟨b2, o2, rfl, e2⟩ := HF.out.2.2.2.at HF.out.2.1 hlt
      have q1 : wr.cell? ⟨b1, o1 + k, none⟩ = some (.int .i64 (F[k]?.getD 0)) := by rw [HW.out.below.cell (p := ⟨b1, o1 + k, none⟩) (lt_of_cell e1)]; exact e1
      have q2 : wr.cell? ⟨b2, o2 + k, none⟩ = some (.int .i64 (L[k]?.getD 0)) := by rw [HW.out.below.cell (p := ⟨b2, o2 + k, none⟩) (lt_of_cell e2)]; exact e2
      obtain ⟨u3, c3⟩ := lst_cell HW.out.lst (i := k * 2) (by omega)
      obtain ⟨u4, c4⟩ := lst_cell HW.out.lst (i := k * 2 + 1) (by omega)
      have c5 := lst_frozen HW.out.lst (k * 2)
      have c6 := lst_frozen HW.out.lst (k * 2 + 1)
      have b0 : (k : Int) < (n : Int) := by omega
      clear e1 e2
      go_wp2
      go_region
      all_goals
        go_wp2
        go_roundw
        case rel =>
          exact ⟨k + 1, by omega, by go_num, HW.out.step hlt (zip_at HF.out.1 HF.out.2.1 hlt)⟩
        case measure => simp [intOf]; omega
    · have hk : k = n := by omega
      subst hk
      have d0 : wr.cell? ⟨w.heap.size, 3, none⟩ = some (.pointer none) := by rw [cell_of_heap HW.out.ent]; rfl
      have d1 := frozen_of_heap HW.out.ent 3
      have d2 := HW.out.size
      go_wp2
      go_ret
      exact ⟨rfl, HW.out.done (by have := HF.out.1; have := HF.out.2.1; simp [List.length_zip]; omega) (by omega)⟩
set_option maxHeartbeats 1000000 in
theorem new_no (held of_ ol : Int) (aF aL : Option Addr) (n cF cL : Nat) (w : World) :
    Calls Try.prog 9 #[.int .i64 held, .int .i64 of_, .int .i64 ol, .bool false, .slice aF n cF, .slice aL n cL, .int .i64 ((0 : Nat) : Int)] w fun e w' => e = .returned (.pointer (some ⟨w.heap.size, 0, none⟩)) ∧
      Ent w.heap.size w' w.heap.size held of_ ol false [] 0 ∧ Below w.heap.size w w' := by
  go_enter Try.func9, Try.ntmps9
  go_wp2
  go_ret
  exact ⟨rfl, ⟨Nat.le_refl _, .inl ⟨rfl, rfl, rfl, heap_alloc_new _ _⟩⟩, (Below.refl _ _).alloc (Nat.le_refl _) _⟩
end Go.Proofs.Qxb6618191a
