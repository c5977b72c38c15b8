/-
  ZZReadEntries (function 11).
-/
import Derived.Test.Qxb6618191aNew
namespace Go.Proofs.Qxb6618191a
open Go.RowKit

theorem results7 {fn : Func} {a b c d e f g : Tmp} (h : fn.results = #[.tmp a, .tmp b, .tmp c, .tmp d, .tmp e, .tmp f, .tmp g]) (tmps : Array Value) (P : Program) (w : World) :
    (results fn tmps).run P w = .ok (.tuple #[tmps.getD a undef, tmps.getD b undef, tmps.getD c undef, tmps.getD d undef, tmps.getD e undef, tmps.getD f undef, tmps.getD g undef]) w := by
  simp [results, h]

theorem made_ints (n : Nat) (w : World) (hn : n ≤ 1000000) : (Instr.makeSlice 22 (.int .i64 (n : Int)) (.int .i64 (n : Int))).run Try.prog w = .ok (.slice (some ⟨w.heap.size, 0, none⟩) n n) (w.alloc (.cells (madeCells #[.int .i64 0] n) 3)) := by
  obtain ⟨i, hi, hzz⟩ := Option.map_eq_some_iff.1 info3
  simp only [Prod.mk.injEq] at hzz
  obtain ⟨hz, hs, hb⟩ := hzz
  have hr := run_make (P := Try.prog) w 22 3 i _ Try.underlying22 hi hz .i64 .i64 n n (by omega) (by omega) (by rw [hb]; omega) (by omega)
  simp only [Int.toNat_natCast, hs, Nat.mul_one] at hr
  exact hr

def ILst (w : World) (g n k : Nat) (xs : List Int) : Prop := ∃ C : Array Value, w.heap[g]? = some (.cells C 3 (0, 0)) ∧ C.size = n ∧ ∀ i, i < k → C[i]? = some (.int .i64 (xs[i]?.getD 0))

theorem ilst_step {w : World} {g n k : Nat} {xs : List Int} (h : ILst w g n k xs) (hk : k < n) {x : Int} (hx : xs[k]?.getD 0 = x) : ILst (w.setCell ⟨g, k, none⟩ (.int .i64 x)) g n (k + 1) xs := by
  obtain ⟨C, h1, h2, h3⟩ := h
  refine ⟨_, heap_set_at h1 _ _, by simp [h2], fun i hi => ?_⟩
  rw [Array.getElem?_setIfInBounds]
  by_cases e : k = i
  · subst e; rw [if_pos rfl, if_pos (by omega), hx]
  · rw [if_neg e]; exact h3 i (by omega)

theorem ilst_other {w : World} {g n k : Nat} {xs : List Int} (h : ILst w g n k xs) {g2 j : Nat} (hg : g ≠ g2) (v : Value) : ILst (w.setCell ⟨g2, j, none⟩ v) g n k xs := by
  obtain ⟨C, h1, h2⟩ := h
  exact ⟨C, by rw [heap_set_other _ _ _ _ (by exact hg)]; exact h1, h2⟩

theorem ilst_row {w : World} {g n : Nat} {xs : List Int} (h : ILst w g n n xs) (hn : xs.length = n) : Row w (some ⟨g, 0, none⟩) xs := by
  obtain ⟨C, h1, h2, h3⟩ := h
  refine .inr ⟨g, 0, rfl, fun i hi => ?_⟩
  rw [Nat.zero_add, cell_of_heap h1]
  exact h3 i (by omega)

theorem ilst_cell {w : World} {g n k : Nat} {xs : List Int} (h : ILst w g n k xs) {i : Nat} (hi : i < n) : ∃ u, w.cell? ⟨g, i, none⟩ = some u := by
  obtain ⟨C, h1, h2, _⟩ := h
  rw [cell_of_heap h1]
  exact getElem?_lt (by omega)

theorem ilst_frozen {w : World} {g n k : Nat} {xs : List Int} (h : ILst w g n k xs) (i : Nat) : w.frozen? ⟨g, i, none⟩ = false := by
  obtain ⟨C, h1, _⟩ := h
  exact frozen_of_heap h1 i

def fsL (rs : List (Int × Int)) : List Int := rs.map (·.1)
def lsL (rs : List (Int × Int)) : List Int := rs.map (·.2)
theorem fsL_len (rs : List (Int × Int)) : (fsL rs).length = rs.length := by simp [fsL]
theorem lsL_len (rs : List (Int × Int)) : (lsL rs).length = rs.length := by simp [lsL]
theorem zip_fl (rs : List (Int × Int)) : (fsL rs).zip (lsL rs) = rs := by
  induction rs with
  | nil => rfl
  | cons x r ih => simp only [fsL, lsL, List.map_cons, List.zip_cons_cons] at *; rw [ih]
theorem fsL_at {rs : List (Int × Int)} {n k : Nat} (hn : rs.length = n) (hk : k < n) : (fsL rs)[k]?.getD 0 = fs rs k := by
  have h := run_at hn hk
  rw [fsL, List.getElem?_map, h]; rfl
theorem lsL_at {rs : List (Int × Int)} {n k : Nat} (hn : rs.length = n) (hk : k < n) : (lsL rs)[k]?.getD 0 = ls rs k := by
  have h := run_at hn hk
  rw [lsL, List.getElem?_map, h]; rfl

/-- How memory stands within ZZReadEntries, k runs read. -/
structure ReadI (w wr : World) (s n k : Nat) (rs : List (Int × Int)) : Prop where
  size : wr.heap.size = s + 2
  f : ILst wr s n k (fsL rs)
  l : ILst wr (s + 1) n k (lsL rs)
  below : Below s w wr

theorem ReadI.step {w wr : World} {s n k : Nat} {rs : List (Int × Int)} (h : ReadI w wr s n k rs) (hn : rs.length = n) (hk : k < n) :
    ReadI w ((wr.setCell ⟨s, k, none⟩ (.int .i64 (fs rs k))).setCell ⟨s + 1, k, none⟩ (.int .i64 (ls rs k))) s n (k + 1) rs := by
  refine ⟨?_, ?_, ?_, ?_⟩
  · rw [← h.size]; simp
  · exact ilst_other (ilst_step h.f hk (fsL_at hn hk)) (by omega) _
  · exact ilst_step (ilst_other h.l (by omega) _) hk (lsL_at hn hk)
  · exact (h.below.setCell (p := ⟨s, k, none⟩) (Nat.le_refl _) _).setCell (p := ⟨s + 1, k, none⟩) (by show s ≤ s + 1; omega) _

set_option maxHeartbeats 1000000 in
theorem read_yes (B e : Nat) (held of_ ol : Int) (rs : List (Int × Int)) (n hd : Nat) (w : World) (hn : rs.length = n) (hn6 : n ≤ 200000) (h : Ent B w e held of_ ol true rs hd) :
    Calls Try.prog 11 #[.pointer (some ⟨e, 0, none⟩)] w fun x w' => x = .returned (.tuple #[.int .i64 held, .int .i64 of_, .int .i64 ol, .bool true, .slice (some ⟨w.heap.size, 0, none⟩) n n, .slice (some ⟨w.heap.size + 1, 0, none⟩) n n, .int .i64 hd]) ∧
      Row w' (some ⟨w.heap.size, 0, none⟩) (fsL rs) ∧ Row w' (some ⟨w.heap.size + 1, 0, none⟩) (lsL rs) ∧ Below w.heap.size w w' := by
  obtain ⟨hBe, ⟨h1, _⟩ | ⟨_, r, a, cap, hBr, he, hr, ho⟩⟩ := h
  · cases h1
  rw [hn] at hr ho
  have HN : Hid (rs.length = n) := hn
  have HO : Hid (w.ownsRow B 45 2 (.slice a n cap) n (rcells rs)) := ho
  have c0 : w.cell? ⟨e, 0, none⟩ = some (.int .i64 held) := by rw [cell_of_heap he]; rfl
  have c1 : w.cell? ⟨e, 1, none⟩ = some (.int .i64 of_) := by rw [cell_of_heap he]; rfl
  have c2 : w.cell? ⟨e, 2, none⟩ = some (.int .i64 ol) := by rw [cell_of_heap he]; rfl
  have c3 : w.cell? ⟨e, 3, none⟩ = some (.pointer (some ⟨r, 0, none⟩)) := by rw [cell_of_heap he]; rfl
  have d0 : w.cell? ⟨r, 0, none⟩ = some (.slice a n cap) := by rw [cell_of_heap hr]; rfl
  have d1 : w.cell? ⟨r, 1, none⟩ = some (.int .i64 hd) := by rw [cell_of_heap hr]; rfl
  have le := lt_of_heap he
  have lr := lt_of_heap hr
  obtain ⟨s, hs⟩ : ∃ s, w.heap.size = s := ⟨_, rfl⟩
  rw [hs] at le lr ⊢
  have HS : Hid (w.heap.size = s) := hs
  have hmk := fun w => made_ints n w (by omega)
  clear he hr ho hn
  go_enter Try.func11, Try.ntmps11
  go_wp2
  go_loopw [62, 9] (fun i _ wr => ∃ k : Nat, k ≤ n ∧ i = .int .i64 k ∧ Hid (ReadI w wr s n k rs)) (fun i _ _ => n - (intOf i).toNat)
  case atStart =>
    subst hs
    refine ⟨0, by omega, rfl, ⟨by simp, ⟨_, by rw [heap_alloc_old _ _ (by simp)]; exact heap_alloc_new _ _, size_madeCells _ _, fun i hi => by omega⟩, ⟨_, new_two _ _ _, size_madeCells _ _, fun i hi => by omega⟩, ((Below.refl _ _).alloc (Nat.le_refl _) _).alloc (by simp) _⟩⟩
  case round =>
    obtain ⟨k, hkn, rfl, HW⟩ := hrel
    clear hmk
    by_cases hlt : k < n
    · obtain ⟨g, rfl, _, hgs, hc, _⟩ := owns_at HO.out (by omega)
      obtain ⟨x0, x1⟩ := run_cell HN.out hc hlt
      have hb := HW.out.below
      rw [hs] at hgs
      have q0 : wr.cell? ⟨g, k * 2, none⟩ = some (.int .i64 (fs rs k)) := by rw [hb.cell (p := ⟨g, k * 2, none⟩) hgs]; exact x0
      have q1 : wr.cell? ⟨g, k * 2 + 1, none⟩ = some (.int .i64 (ls rs k)) := by rw [hb.cell (p := ⟨g, k * 2 + 1, none⟩) hgs]; exact x1
      have q3 : wr.cell? ⟨e, 3, none⟩ = some (.pointer (some ⟨r, 0, none⟩)) := by rw [hb.cell (p := ⟨e, 3, none⟩) le]; exact c3
      have q4 : wr.cell? ⟨r, 0, none⟩ = some (.slice (some ⟨g, 0, none⟩) n cap) := by rw [hb.cell (p := ⟨r, 0, none⟩) lr]; exact d0
      obtain ⟨u5, y5⟩ := ilst_cell HW.out.f hlt
      obtain ⟨u6, y6⟩ := ilst_cell HW.out.l hlt
      have y7 := ilst_frozen HW.out.f k
      have y8 := ilst_frozen HW.out.l k
      have n1 : g ≠ s := by omega
      have n2 : e ≠ s := by omega
      have n3 : r ≠ s := by omega
      have b0 : (k : Int) < (n : Int) := by omega
      clear c0 c1 c2 c3 d0 d1 hc x0 x1 hb
      go_wp2
      go_roundw
      case rel => exact ⟨k + 1, by omega, by go_num, HW.out.step HN.out hlt⟩
      case measure => simp [intOf]; omega
    · have hk : k = n := by omega
      subst hk
      go_wp2
      (try simp only [Exit.inBlock, Exit.then])
      refine bodyPost_ret (results7 rfl _ _ _) rfl ?_
      exact ⟨rfl, ilst_row HW.out.f (by rw [fsL_len]; exact HN.out), ilst_row HW.out.l (by rw [lsL_len]; exact HN.out), HW.out.below⟩

set_option maxHeartbeats 1000000 in
theorem read_no (B e : Nat) (held of_ ol : Int) (rs : List (Int × Int)) (hd : Nat) (w : World) (h : Ent B w e held of_ ol false rs hd) :
    Calls Try.prog 11 #[.pointer (some ⟨e, 0, none⟩)] w fun x w' => x = .returned (.tuple #[.int .i64 held, .int .i64 of_, .int .i64 ol, .bool false, .slice none 0 0, .slice none 0 0, .int .i64 0]) ∧ w' = w := by
  obtain ⟨hBe, ⟨_, hrs, hd0, he⟩ | ⟨h1, _⟩⟩ := h
  · have c0 : w.cell? ⟨e, 0, none⟩ = some (.int .i64 held) := by rw [cell_of_heap he]; rfl
    have c1 : w.cell? ⟨e, 1, none⟩ = some (.int .i64 of_) := by rw [cell_of_heap he]; rfl
    have c2 : w.cell? ⟨e, 2, none⟩ = some (.int .i64 ol) := by rw [cell_of_heap he]; rfl
    have c3 : w.cell? ⟨e, 3, none⟩ = some (.pointer none) := by rw [cell_of_heap he]; rfl
    clear he
    go_enter Try.func11, Try.ntmps11
    go_wp2
    (try simp only [Exit.inBlock, Exit.then])
    refine bodyPost_ret (results7 rfl _ _ _) rfl ?_
    exact ⟨rfl, rfl⟩
  · cases h1
end Go.Proofs.Qxb6618191a
