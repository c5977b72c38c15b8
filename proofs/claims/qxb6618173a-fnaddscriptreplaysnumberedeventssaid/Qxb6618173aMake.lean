/-
  What a history is in memory; ZZMakeHistory (function 8).
-/
import Derived.Test.Qxb6618173aEvents
namespace Go.Proofs.Qxb6618173a
open Go.RowKit

/-- Cell j of a row of held events. -/
def hcell (es : List (Nat × Int)) (j : Nat) : Value :=
  if j % 2 = 0 then .pointer ((es[j / 2]?).map fun x => ⟨x.1, 0, none⟩) else .int .i64 ((es[j / 2]?).elim 0 (·.2))

/-- The slice of held events: empty without room, or a part of a row of its own, from block B on. -/
def HSl (w : World) (B : Nat) (v : Value) (es : List (Nat × Int)) : Prop :=
  (es = [] ∧ ∃ a, v = .slice a 0 0) ∨
  ∃ g o cap C, v = .slice (some ⟨g, o, none⟩) es.length cap ∧ B ≤ g ∧ w.heap[g]? = some (.cells C 47 (0, 0)) ∧ es.length ≤ cap ∧ 0 < cap ∧ o + 2 * cap ≤ C.size ∧
    ∀ j, j < 2 * es.length → C[o + j]? = some (hcell es j)

/-- A history at block hb. -/
def Hist (w : World) (B hb : Nat) (es : List (Nat × Int)) (by_ : Int) : Prop :=
  B ≤ hb ∧ ∃ v, w.heap[hb]? = some (.cells #[v, .int .i64 by_] 49 (0, 0)) ∧ HSl w B v es

theorem made2 (n : Nat) (w : World) (hn : n ≤ 65536) : (Instr.makeSlice 45 (.int .i64 n) (.int .i64 n)).run Try.prog w = .ok (.slice (some ⟨w.heap.size, 0, none⟩) n n) (w.alloc (.cells (madeCells #[.pointer none, .int .i64 0] (n * 2)) 47)) := by
  obtain ⟨i, hi, hzz⟩ := Option.map_eq_some_iff.1 info47
  simp only [Prod.mk.injEq] at hzz
  obtain ⟨hz, hs, hb⟩ := hzz
  have hr := run_make (P := Try.prog) w 45 47 i _ Try.underlying45 hi hz .i64 .i64 n n (by omega) (Int.le_refl _) (by rw [hb]; omega) (by omega)
  simp only [Int.toNat_natCast, hs] at hr
  exact hr

theorem made2_cell (n j : Nat) (h : j < n * 2) : (madeCells #[Value.pointer none, .int .i64 0] (n * 2))[j]? = some (hcell [] j) := by
  have h2 : j % 2 = 0 ∨ j % 2 = 1 := by omega
  rcases h2 with h2 | h2 <;> simp [madeCells, h, hcell, h2]


/-- The events of Evs with these sizes. -/
def esOf (eb : Nat) (l : List Int) (k : Nat) : List (Nat × Int) := (List.range k).map fun i => (eb + 1 + i, l[i]?.getD 0)

theorem esOf_length (eb : Nat) (l : List Int) (k : Nat) : (esOf eb l k).length = k := by simp [esOf]
theorem esOf_at {eb : Nat} {l : List Int} {k i : Nat} (h : i < k) : (esOf eb l k)[i]? = some (eb + 1 + i, l[i]?.getD 0) := by simp [esOf, h]
theorem esOf_out {eb : Nat} {l : List Int} {k i : Nat} (h : k ≤ i) : (esOf eb l k)[i]? = none := by simp [esOf, h]

theorem hcell_even {es : List (Nat × Int)} {i : Nat} {x : Nat × Int} (h : es[i]? = some x) : hcell es (2 * i) = .pointer (some ⟨x.1, 0, none⟩) := by
  simp [hcell, h]
theorem hcell_odd {es : List (Nat × Int)} {i : Nat} {x : Nat × Int} (h : es[i]? = some x) : hcell es (2 * i + 1) = .int .i64 x.2 := by
  have h1 : (2 * i + 1) % 2 = 1 := by omega
  have h2 : (2 * i + 1) / 2 = i := by omega
  simp [hcell, h1, h2, h]
theorem hcell_congr {es fs : List (Nat × Int)} {j : Nat} (h : es[j / 2]? = fs[j / 2]?) : hcell es j = hcell fs j := by
  simp [hcell, h]

theorem held_step {wr : World} {g eb n k : Nat} {l : List Int} (h : wr.rowIs g 47 (n * 2) (hcell (esOf eb l k))) :
    ((wr.setCell ⟨g, k * 2, none⟩ (.pointer (some ⟨eb + 1 + k, 0, none⟩))).setCell ⟨g, k * 2 + 1, none⟩ (.int .i64 (l[k]?.getD 0))).rowIs g 47 (n * 2) (hcell (esOf eb l (k + 1))) := by
  refine ((h.set _ _).set _ _).congr (fun j hj => ?_)
  by_cases e1 : j = k * 2 + 1
  · subst e1
    have := hcell_odd (esOf_at (eb := eb) (l := l) (show k < k + 1 by omega))
    rw [show k * 2 + 1 = 2 * k + 1 by omega, this]; simp
  · by_cases e0 : j = k * 2
    · subst e0
      have := hcell_even (esOf_at (eb := eb) (l := l) (show k < k + 1 by omega))
      rw [show k * 2 = 2 * k by omega, this]; simp
    · simp only [e1, e0, if_false]
      apply hcell_congr
      by_cases hlt : j < 2 * k
      · rw [esOf_at (by omega), esOf_at (by omega)]
      · rw [esOf_out (by omega), esOf_out (by omega)]

theorem hist_made {wr : World} {B g eb n : Nat} {l : List Int} {by_ : Int} (hB : B ≤ g) (hsz : wr.heap.size = g + 1) (h : wr.rowIs g 47 (n * 2) (hcell (esOf eb l n))) :
    Hist (wr.alloc (.cells #[.slice (some ⟨g, 0, none⟩) n n, .int .i64 by_] 49)) B (g + 1) (esOf eb l n) by_ := by
  refine ⟨by omega, _, by rw [← hsz]; exact heap_alloc_new _ _, ?_⟩
  by_cases hn : n = 0
  · subst hn
    exact .inl ⟨rfl, _, rfl⟩
  · obtain ⟨C, hC, hs, hc⟩ := h
    refine .inr ⟨g, 0, n, C, by rw [esOf_length], hB, by rw [heap_alloc_old _ _ (by omega)]; exact hC, by rw [esOf_length]; omega, by omega, by omega, fun j hj => ?_⟩
    rw [esOf_length] at hj
    rw [Nat.zero_add]
    exact hc j (by omega)

set_option maxHeartbeats 1000000 in
theorem mkHist (a : Option Addr) (l : List Int) (eb n cap B : Nat) (first by_ : Int) (w : World) (hl : l.length = n) (hr : Row w a l) (he : Evs w eb first n) (hn : n ≤ 65536) (hB : B ≤ w.heap.size) :
    Calls Try.prog 8 #[.slice (some ⟨eb, 0, none⟩) n n, .slice a n cap, .int .i64 by_] w fun e w' => e = .returned (.pointer (some ⟨w.heap.size + 1, 0, none⟩)) ∧
      Hist w' B (w.heap.size + 1) (esOf eb l n) by_ ∧ Below w.heap.size w w' := by
  have hmk := fun w => made2 n w hn
  have HL : Hid (l.length = n) := hl
  have HR : Hid (Row w a l) := hr
  have HE : Hid (Evs w eb first n) := he
  clear hl hr he
  go_enter Try.func8, Try.ntmps8
  go_wp2
  go_loopw [14] (fun i wr => ∃ k : Nat, k ≤ n ∧ i = .int .i64 k ∧ wr.heap.size = w.heap.size + 1 ∧ wr.rowIs w.heap.size 47 (n * 2) (hcell (esOf eb l k)) ∧ Below w.heap.size w wr) (fun i _ => n - (intOf i).toNat)
  case atStart => exact ⟨0, by omega, rfl, by simp, ⟨_, heap_alloc_new _ _, size_madeCells _ _, fun i hi => made2_cell n i hi⟩, (Below.refl _ _).alloc (Nat.le_refl _) _⟩
  case round =>
    obtain ⟨k, hkn, rfl, hsz, hrow, hbel⟩ := hrel
    have HW : Hid (wr.rowIs w.heap.size 47 (n * 2) (hcell (esOf eb l k))) := hrow
    have HB : Hid (Below w.heap.size w wr) := hbel
    have HZ : Hid (wr.heap.size = w.heap.size + 1) := hsz
    by_cases hlt : k < n
    · obtain ⟨b, off, rfl, hc⟩ := HR.out.at HL.out hlt
      have c1 : wr.cell? ⟨b, off + k, none⟩ = some (.int .i64 (l[k]?.getD 0)) := by rw [hbel.cell (p := ⟨b, off + k, none⟩) (lt_of_cell hc)]; exact hc
      have c2 : wr.cell? ⟨eb, k, none⟩ = some (.pointer (some ⟨eb + 1 + k, 0, none⟩)) := by
        have := HE.out.1.cell hlt
        rw [hbel.cell (p := ⟨eb, k, none⟩) (lt_of_cell this)]; exact this
      have c3 := hrow.cell (i := k * 2) (by omega)
      have c4 := hrow.cell (i := k * 2 + 1) (by omega)
      have c5 := hrow.frozen (k * 2)
      have c6 := hrow.frozen (k * 2 + 1)
      have b1 : (k : Int) < (n : Int) := by omega
      clear hrow hbel hmk hc hsz
      go_wp2
      go_region
      all_goals
        go_wp2
        go_roundw
        case rel => exact ⟨k + 1, by omega, by go_num, by simp [HZ.out], (held_step HW.out).drew, ((HB.out.setCell (Nat.le_refl _) _).setCell (Nat.le_refl _) _).drew⟩
        case measure => simp [intOf]; omega
    · clear hrow hbel hmk
      go_wp2
      go_ret
      have hk : k = n := by omega
      subst hk
      exact ⟨rfl, hist_made hB HZ.out HW.out, HB.out.alloc (by have := HZ.out; omega) _⟩
end Go.Proofs.Qxb6618173a
