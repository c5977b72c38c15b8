/-
  history.after (function 19).
-/
import Derived.Test.Qxb6618173aPlain
namespace Go.Proofs.Qxb6618173a
open Go.RowKit

theorem made29 (n : Nat) (w : World) (hn : n ≤ 65536) : (Instr.makeSlice 24 (.int .i64 0) (.int .i64 n)).run Try.prog w = .ok (.slice (some ⟨w.heap.size, 0, none⟩) 0 n) (w.alloc (.cells (madeCells #[.pointer none] n) 29)) := by
  obtain ⟨i, hi, hzz⟩ := Option.map_eq_some_iff.1 info29
  simp only [Prod.mk.injEq] at hzz
  obtain ⟨hz, hs, hb⟩ := hzz
  have hr := run_make (P := Try.prog) w 24 29 i _ Try.underlying24 hi hz .i64 .i64 0 n (by omega) (by omega) (by rw [hb]; omega) (by omega)
  simp only [Int.toNat_natCast, hs, Nat.mul_one] at hr
  exact hr

def rObj (last gone : Int) (v : Value) : Obj := .cells #[.int .u64 last, .int .u64 gone, v] 41 (0, 0)

/-- What lies there of a call of after: its result's variable, its r. -/
structure Aft (w wx : World) (last gone : Int) (v : Value) : Prop where
  res : wx.heap[w.heap.size]? = some (rObj 0 0 (.slice none 0 0))
  r : wx.heap[w.heap.size + 1]? = some (rObj last gone v)
  below : Below w.heap.size w wx

theorem aft_made (w : World) (last gone : Int) : Aft w ((w.alloc (.cells #[.int .u64 0, .int .u64 0, .slice none 0 0] 41)).alloc (.cells #[.int .u64 last, .int .u64 gone, .slice none 0 0] 41)) last gone (.slice none 0 0) := by
  refine ⟨?_, ?_, ((Below.refl _ _).alloc (Nat.le_refl _) _).alloc (by simp) _⟩
  · rw [heap_alloc_old _ _ (by simp)]; exact heap_alloc_new _ _
  · have := heap_alloc_new (w.alloc (.cells #[.int .u64 0, .int .u64 0, .slice none 0 0] 41)) (.cells #[.int .u64 last, .int .u64 gone, .slice none 0 0] 41)
    simpa [rObj] using this

/-- The events' pointers, as after gathers them. -/
def ptrs (es : List (Nat × Int)) (d k : Nat) : List Value := ((es.drop d).take k).map fun x => .pointer (some ⟨x.1, 0, none⟩)
theorem ptrs_zero (es : List (Nat × Int)) (d : Nat) : ptrs es d 0 = [] := rfl
theorem ptrs_succ {es : List (Nat × Int)} {d k : Nat} {x : Nat × Int} (h : es[d + k]? = some x) : ptrs es d (k + 1) = ptrs es d k ++ [.pointer (some ⟨x.1, 0, none⟩)] := by
  unfold ptrs
  have h2 : (es.drop d)[k]? = some x := by rw [List.getElem?_drop]; exact h
  obtain ⟨h3, h4⟩ := List.getElem?_eq_some_iff.1 h2
  rw [List.take_succ_eq_append_getElem h3, List.map_append, h4]
  rfl

theorem aft_start {w wc : World} {last gone : Int} {m : Nat} (h : Aft w wc last gone (.slice none 0 0)) (hm : m ≤ 65536) :
    Aft w ((wc.setCell ⟨w.heap.size + 1, 2, none⟩ (.slice (some ⟨wc.heap.size, 0, none⟩) 0 m)).alloc (.cells (madeCells #[.pointer none] m) 29)) last gone (.slice (some ⟨wc.heap.size, 0, none⟩) 0 m) ∧
    ((wc.setCell ⟨w.heap.size + 1, 2, none⟩ (.slice (some ⟨wc.heap.size, 0, none⟩) 0 m)).alloc (.cells (madeCells #[.pointer none] m) 29)).ownsRow (w.heap.size + 2) 29 1 (.slice (some ⟨wc.heap.size, 0, none⟩) 0 m) 0 [] := by
  have hs1 := lt_of_heap h.r
  have hs0 := lt_of_heap h.res
  refine ⟨⟨?_, ?_, (h.below.setCell (by simp) _).alloc (by simp; omega) _⟩, ?_⟩
  · rw [heap_alloc_old _ _ (by simp; omega), heap_set_other _ _ _ _ (by simp)]; exact h.res
  · rw [heap_alloc_old _ _ (by simp; omega), heap_set_at h.r]; rfl
  · have := World.ownsRow_made (base := w.heap.size + 2) (e := 29) (size := 1) (wc.setCell ⟨w.heap.size + 1, 2, none⟩ (.slice (some ⟨wc.heap.size, 0, none⟩) 0 m)) (madeCells #[.pointer none] m) m (by simp; omega) (by unfold maxLen; omega) (by rw [size_madeCells]; omega)
    simpa using this

theorem aft_step {w wr w1 w2 : World} {last gone : Int} {v v' : Value} {k : Nat} {xs ys : List Value} (h : Aft w wr last gone v) (h1 : Below wr.heap.size wr w1) (hown : w1.ownsRow (w.heap.size + 2) 29 1 v k xs) (hg : w1.grownBy w2 v.ownBlock) (h2 : w2.ownsRow (w.heap.size + 2) 29 1 v' (k + 1) ys) :
    w2.heap[w.heap.size + 1]? = some (rObj last gone v) ∧ Aft w (w2.setCell ⟨w.heap.size + 1, 2, none⟩ v') last gone v' ∧ (w2.setCell ⟨w.heap.size + 1, 2, none⟩ v').ownsRow (w.heap.size + 2) 29 1 v' (k + 1) ys := by
  have hs1 := lt_of_heap h.r
  have hs0 := lt_of_heap h.res
  have hz := h1.size
  have hne : ∀ b, b < w.heap.size + 2 → some b ≠ v.ownBlock := fun b hb e => by
    have := (hown.lt b e.symm).1
    omega
  have hr : w2.heap[w.heap.size + 1]? = some (rObj last gone v) := by
    rw [hg.block _ (by omega) (hne _ (by omega)), h1.block _ hs1]; exact h.r
  have hq : w2.heap[w.heap.size]? = some (rObj 0 0 (.slice none 0 0)) := by
    rw [hg.block _ (by omega) (hne _ (by omega)), h1.block _ hs0]; exact h.res
  refine ⟨hr, ⟨?_, ?_, ?_⟩, ownsRow_setCell_below h2 (by simp) _⟩
  · rw [heap_set_other _ _ _ _ (by simp)]; exact hq
  · rw [heap_set_at hr]; rfl
  · exact (((h.below.trans (h1.mono h.below.size)).grown hg (by omega) (fun k e => by have := (hown.lt k e).1; omega)).setCell (by simp) _)

theorem aft_end {w wr : World} {last gone : Int} {v : Value} {k : Nat} {xs : List Value} (h : Aft w wr last gone v) (hown : wr.ownsRow (w.heap.size + 2) 29 1 v k xs) :
    (((wr.setCell ⟨w.heap.size, 0, none⟩ (.int .u64 last)).setCell ⟨w.heap.size, 1, none⟩ (.int .u64 gone)).setCell ⟨w.heap.size, 2, none⟩ v).ownsRow (w.heap.size + 2) 29 1 v k xs ∧
    Below w.heap.size w (((wr.setCell ⟨w.heap.size, 0, none⟩ (.int .u64 last)).setCell ⟨w.heap.size, 1, none⟩ (.int .u64 gone)).setCell ⟨w.heap.size, 2, none⟩ v) :=
  ⟨ownsRow_setCell_below (ownsRow_setCell_below (ownsRow_setCell_below hown (by simp) _) (by simp) _) (by simp) _,
   ((h.below.setCell (Nat.le_refl _) _).setCell (Nat.le_refl _) _).setCell (Nat.le_refl _) _⟩

theorem wpList_append_ptr {ops : Array Oper} {rest : List Oper} {o : Oper} {a : Act} {Q : Exit → Act → World → Prop} (w : World) (hgd : o.guard = none) (s x : Operand)
    (ho : o.op = .call { callee := .builtin .append, args := #[s, x], argTypes := #[24, 24] }) (base : Nat) (v : Value) (k : Nat) (xs : List Value) (hs : a.eval s = v) (nb : Nat) (hx : a.eval x = .slice (some ⟨nb, 0, none⟩) 1 1) (p : Option Addr)
    (hown : w.ownsRow base 29 1 v k xs) (hnb : w.heap[nb]? = some (.cells #[.pointer p] 29 (0, 0))) (hk : k ≤ 65536) (hbase : base ≤ w.heap.size)
    (h : ∀ v' w', Hid (w'.ownsRow base 29 1 v' (k + 1) (xs ++ [.pointer p])) → Hid (w.grownBy w' v.ownBlock) → wpList Try.prog ops Q rest (a.put o.dst v') w') :
    wpList Try.prog ops Q (o :: rest) a w := by
  obtain ⟨i, hi, hzz⟩ := Option.map_eq_some_iff.1 info29
  simp only [Prod.mk.injEq] at hzz
  obtain ⟨hz, hs29, hb29⟩ := hzz
  refine wpList_append_own w hgd s x 24 ho base 29 i (.pointer none) 1 8 Try.underlying24 hi hz hs29 hb29 rfl (by omega) v k xs hs hown ⟨nb, 0, none⟩ 1 1 [.pointer p] hx rfl ?_ ?_ ?_ ?_ hbase ?_
  · intro j u hj
    rw [add_lit, Nat.zero_add, cell_of_heap hnb]
    simpa using hj
  · intro u hu
    simp at hu
    subst hu
    rfl
  · unfold maxLen; omega
  · omega
  · intro v' w' h1 h2 _
    exact h v' w' h1 h2

theorem new_two (w : World) (o1 o2 : Obj) : ((w.alloc o1).alloc o2).heap[w.heap.size + 1]? = some o2 := by
  have := heap_alloc_new (w.alloc o1) o2
  rwa [World.size_alloc] at this

theorem Hist.open2 {w : World} {B hb : Nat} {es : List (Nat × Int)} {by_ : Int} (h : Hist w B hb es by_) :
    ∃ a cap, w.cell? ⟨hb, 0, none⟩ = some (.slice a es.length cap) ∧ es.length ≤ cap ∧
      ∀ i x, es[i]? = some x → ∃ g o, a = some ⟨g, o, none⟩ ∧ w.cell? ⟨g, o + i * 2, none⟩ = some (.pointer (some ⟨x.1, 0, none⟩)) ∧ w.cell? ⟨g, o + i * 2 + 1, none⟩ = some (.int .i64 x.2) := by
  obtain ⟨a, cap, c0, c1, hc⟩ := h.open
  refine ⟨a, cap, c0, ?_, hc⟩
  obtain ⟨_, v, hv, hs⟩ := h
  rw [cell_of_heap hv] at c0
  simp at c0
  subst c0
  rcases hs with ⟨rfl, _⟩ | ⟨g, o, cap', C, e, _, _, hlc, _⟩
  · exact Nat.zero_le _
  · injection e with _ _ e3; omega

set_option maxRecDepth 100000 in
set_option maxHeartbeats 4000000 in
theorem after_any (B hb n m d : Nat) (es : List (Nat × Int)) (by_ since last : Int) (w : World) (h : Hist w B hb es by_) (hn : es.length = n) (hn6 : n ≤ 65536) (h0 : 0 ≤ since) (h1 : since ≤ last) (h2 : last ≤ 18446744073709551614) (h3 : (n : Int) ≤ last)
    (hm : n - d = m) (hd : d ≤ n) (hm1 : since + n < last → m = n) (hm2 : last ≤ since + n → (m : Int) = last - since) (gone : Int) (hg : gone = last - since - m) :
    Calls Try.prog 19 #[.pointer (some ⟨hb, 0, none⟩), .int .u64 since, .int .u64 last] w fun e w' => ∃ v, e = .returned (.agg #[.int .u64 last, .int .u64 gone, v]) ∧ w'.ownsRow (w.heap.size + 2) 29 1 v m (ptrs es d m) ∧ Below w.heap.size w w' := by
  obtain ⟨a, cap, c0, hcap, hc⟩ := h.open2
  rw [hn] at c0 hcap
  have hbw := lt_of_cell c0
  have hmk := fun w => made29 m w (by omega)
  have HC : Hid (∀ i x, es[i]? = some x → ∃ g o, a = some ⟨g, o, none⟩ ∧ w.cell? ⟨g, o + i * 2, none⟩ = some (.pointer (some ⟨x.1, 0, none⟩)) ∧ w.cell? ⟨g, o + i * 2 + 1, none⟩ = some (.int .i64 x.2)) := hc
  have HM : Hid ((since + n < last → m = n) ∧ (last ≤ since + n → (m : Int) = last - since)) := ⟨hm1, hm2⟩
  have HG : Hid (gone = last - since - m) := hg
  have HN : Hid (es.length = n) := hn
  have hidx : last - (m : Int) + 1 - (last + 1 - (n : Int)) = (d : Int) := by omega
  clear h hm1 hm2 hg hn hc
  go_enter Try.func19, Try.ntmps19
  go_upto_if 26 with fail
  go_cut [1, 26] from 27 to 33 (fun s _ wx => s = .int .u64 (last - m) ∧ Aft w wx last gone (.slice none 0 0))
  case first =>
    by_cases hgo : since + n < last
    · have e1 := HM.out.1 hgo
      have hx : since + 1 < last + 1 - (n : Int) := by omega
      have h4 : last + 1 - (n : Int) - 1 = last - m := by omega
      have h5 : last + 1 - (n : Int) - 1 - since = gone := by have := HG.out; omega
      have H4 : Hid (last + 1 - (n : Int) - 1 = last - m ∧ last + 1 - (n : Int) - 1 - since = gone) := ⟨h4, h5⟩
      clear h4 h5 e1 hidx
      go_wp2
      go_meet
      case rel =>
        refine ⟨?_, ?_⟩
        · rw [H4.out.1]
        · rw [H4.out.2]; exact aft_made w last gone
    · have e1 := HM.out.2 (by omega)
      have hx : ¬ since + 1 < last + 1 - (n : Int) := by omega
      have H4 : Hid (since = last - m ∧ gone = 0) := by have := HG.out; exact ⟨by omega, by omega⟩
      clear e1 hidx
      go_wp2
      go_meet
      case rel =>
        refine ⟨?_, ?_⟩
        · rw [← H4.out.1]
        · rw [H4.out.2]; exact aft_made w last 0
  case rest =>
    obtain ⟨rfl, hax⟩ := hcut
    have HA : Hid (Aft w wc last gone (.slice none 0 0)) := hax
    have d0 : wc.cell? ⟨hb, 0, none⟩ = some (.slice a n cap) := by rw [hax.below.cell (p := ⟨hb, 0, none⟩) hbw]; exact c0
    have d1 : wc.cell? ⟨w.heap.size + 1, 2, none⟩ = some (.slice none 0 0) := by rw [cell_of_heap hax.r]; rfl
    have d2 : wc.frozen? ⟨w.heap.size + 1, 2, none⟩ = false := frozen_of_heap hax.r 2
    have hsz := lt_of_heap hax.r
    clear hax c0
    by_cases hm0 : m = 0
    · have HM0 : Hid (m = 0) := hm0
      clear hm0
      by_cases hcd : cap = d
      all_goals
        go_wp2
        go_loopw [49] (fun i wr => ∃ (k : Nat) (v : Value), k ≤ m ∧ i = .int .i64 k ∧ Hid (Aft w wr last gone v) ∧ Hid (wr.ownsRow (w.heap.size + 2) 29 1 v k (ptrs es d k))) (fun i _ => m - (intOf i).toNat)
        case atStart => exact ⟨0, _, by omega, rfl, (aft_start HA.out (by omega)).1, (aft_start HA.out (by omega)).2⟩
        case round =>
          obtain ⟨k, v, hkm, rfl, HW, HO⟩ := hrel
          obtain ⟨a', cap', hv⟩ : ∃ a' cap', v = .slice a' k cap' := by
            rcases HO.out.2 with ⟨h, h0⟩ | ⟨g, cap, cur, h, _⟩
            · exact ⟨none, 0, by rw [h, h0]⟩
            · exact ⟨_, cap, h⟩
          subst hv
          have e2 : wr.cell? ⟨w.heap.size + 1, 2, none⟩ = some (.slice a' k cap') := by rw [cell_of_heap HW.out.r]; rfl
          clear d0 d1 d2 hsz
          have hk : k = m := by have := HM0.out; omega
          subst hk
          have r0 : wr.cell? ⟨w.heap.size + 1, 0, none⟩ = some (.int .u64 last) := by rw [cell_of_heap HW.out.r]; rfl
          have r1 : wr.cell? ⟨w.heap.size + 1, 1, none⟩ = some (.int .u64 gone) := by rw [cell_of_heap HW.out.r]; rfl
          have t0 : wr.cell? ⟨w.heap.size, 0, none⟩ = some (.int .u64 0) := by rw [cell_of_heap HW.out.res]; rfl
          have t1 : wr.cell? ⟨w.heap.size, 1, none⟩ = some (.int .u64 0) := by rw [cell_of_heap HW.out.res]; rfl
          have t2 : wr.cell? ⟨w.heap.size, 2, none⟩ = some (.slice none 0 0) := by rw [cell_of_heap HW.out.res]; rfl
          have y0 := frozen_of_heap HW.out.res 0
          have y1 := frozen_of_heap HW.out.res 1
          have y2 := frozen_of_heap HW.out.res 2
          have HE : Hid _ := aft_end HW.out HO.out
          clear hmk hidx
          go_wp2
          refine bodyPost_ret (v := .agg #[.int .u64 last, .int .u64 gone, .slice a' k cap']) (by simp [results, Try.results19, go_sem, t0, t1, t2]) rfl ?_
          exact ⟨_, rfl, HE.out.1, HE.out.2⟩
    · have hcd : ¬ cap = d := by omega
      have hdn : d < n := by omega
      obtain ⟨x, hx⟩ : ∃ x, es[d]? = some x := ⟨es[d]'(by have := HN.out; omega), List.getElem?_eq_getElem _⟩
      obtain ⟨g, o, rfl, _, _⟩ := HC.out d x hx
      clear hx
      go_wp2
      go_loopw [49] (fun i wr => ∃ (k : Nat) (v : Value), k ≤ m ∧ i = .int .i64 k ∧ Hid (Aft w wr last gone v) ∧ Hid (wr.ownsRow (w.heap.size + 2) 29 1 v k (ptrs es d k))) (fun i _ => m - (intOf i).toNat)
      case atStart => exact ⟨0, _, by omega, rfl, (aft_start HA.out (by omega)).1, (aft_start HA.out (by omega)).2⟩
      case round =>
        obtain ⟨k, v, hkm, rfl, HW, HO⟩ := hrel
        obtain ⟨a', cap', hv⟩ : ∃ a' cap', v = .slice a' k cap' := by
          rcases HO.out.2 with ⟨h, h0⟩ | ⟨g, cap, cur, h, _⟩
          · exact ⟨none, 0, by rw [h, h0]⟩
          · exact ⟨_, cap, h⟩
        subst hv
        have e2 : wr.cell? ⟨w.heap.size + 1, 2, none⟩ = some (.slice a' k cap') := by rw [cell_of_heap HW.out.r]; rfl
        clear d0 d1 d2 hsz
        by_cases hlt : k < m
        · obtain ⟨y, hy⟩ : ∃ y, es[d + k]? = some y := ⟨es[d + k]'(by have := HN.out; omega), List.getElem?_eq_getElem _⟩
          obtain ⟨g', o', heq, q1, q2⟩ := HC.out (d + k) y hy
          injection heq with heq
          injection heq with hg1 ho1
          subst hg1 ho1
          have gb := lt_of_cell q1
          have HY : Hid (es[d + k]? = some y) := hy
          have p1 : wr.cell? ⟨g, o + d * 2 + k * 2, none⟩ = some (.pointer (some ⟨y.1, 0, none⟩)) := by
            rw [HW.out.below.cell (p := ⟨g, o + d * 2 + k * 2, none⟩) gb, show o + d * 2 + k * 2 = o + (d + k) * 2 by omega]; exact q1
          have p2 : wr.cell? ⟨g, o + d * 2 + k * 2 + 1, none⟩ = some (.int .i64 y.2) := by
            rw [HW.out.below.cell (p := ⟨g, o + d * 2 + k * 2 + 1, none⟩) gb, show o + d * 2 + k * 2 + 1 = o + (d + k) * 2 + 1 by omega]; exact q2
          have hws := lt_of_heap HW.out.r
          have gb2 : g < wr.heap.size := by omega
          have b1 : (k : Int) < (m : Int) := by omega
          have hk6 : k ≤ 65536 := by omega
          have hsz2 : w.heap.size + 2 ≤ ((wr.alloc (.cells #[.pointer (some ⟨y.1, 0, none⟩), .int .i64 y.2] 47)).alloc (.cells #[.pointer (some ⟨y.1, 0, none⟩)] 29)).heap.size := by simp; omega
          clear q1 q2 hy gb hmk hidx
          go_wp2_with (at_builtin; refine wpList_append_ptr _ (by rfl) _ _ (by rfl) (w.heap.size + 2) (.slice a' k cap') k (ptrs es d k) (by rfl) (wr.heap.size + 1) (by rfl) (some ⟨y.1, 0, none⟩) ((HO.out.alloc _).alloc _) (new_two _ _ _) hk6 hsz2 ?_)
          intro v2 w2 ho2' hg2'
          have ho2 := ho2'.out
          have hg2 := hg2'.out
          clear ho2' hg2'
          obtain ⟨a2, cap2, hv2⟩ : ∃ a2 cap2, v2 = .slice a2 (k + 1) cap2 := by
            rcases ho2.2 with ⟨h, h0⟩ | ⟨g, cap, cur, h, _⟩
            · omega
            · exact ⟨_, cap, h⟩
          subst hv2
          have hst := aft_step HW.out (((Below.refl _ _).alloc (Nat.le_refl _) _).alloc (by simp) _) ((HO.out.alloc _).alloc _) hg2 ho2
          have e3 : w2.cell? ⟨w.heap.size + 1, 2, none⟩ = some (.slice a' k cap') := by rw [cell_of_heap hst.1]; rfl
          have e4 : w2.frozen? ⟨w.heap.size + 1, 2, none⟩ = false := frozen_of_heap hst.1 2
          have HS : Hid (Aft w (w2.setCell ⟨w.heap.size + 1, 2, none⟩ (.slice a2 (k + 1) cap2)) last gone (.slice a2 (k + 1) cap2) ∧ (w2.setCell ⟨w.heap.size + 1, 2, none⟩ (.slice a2 (k + 1) cap2)).ownsRow (w.heap.size + 2) 29 1 (.slice a2 (k + 1) cap2) (k + 1) (ptrs es d (k + 1))) := ⟨hst.2.1, by rw [ptrs_succ HY.out]; exact hst.2.2⟩
          clear hst ho2 hg2 e2 p1 p2
          go_wp2
          go_roundw
          case rel => exact ⟨k + 1, _, by omega, by go_num, HS.out.1, HS.out.2⟩
          case measure => simp [intOf]; omega
        · have hk : k = m := by omega
          subst hk
          have r0 : wr.cell? ⟨w.heap.size + 1, 0, none⟩ = some (.int .u64 last) := by rw [cell_of_heap HW.out.r]; rfl
          have r1 : wr.cell? ⟨w.heap.size + 1, 1, none⟩ = some (.int .u64 gone) := by rw [cell_of_heap HW.out.r]; rfl
          have t0 : wr.cell? ⟨w.heap.size, 0, none⟩ = some (.int .u64 0) := by rw [cell_of_heap HW.out.res]; rfl
          have t1 : wr.cell? ⟨w.heap.size, 1, none⟩ = some (.int .u64 0) := by rw [cell_of_heap HW.out.res]; rfl
          have t2 : wr.cell? ⟨w.heap.size, 2, none⟩ = some (.slice none 0 0) := by rw [cell_of_heap HW.out.res]; rfl
          have y0 := frozen_of_heap HW.out.res 0
          have y1 := frozen_of_heap HW.out.res 1
          have y2 := frozen_of_heap HW.out.res 2
          have HE : Hid _ := aft_end HW.out HO.out
          clear hmk hidx
          go_wp2
          refine bodyPost_ret (v := .agg #[.int .u64 last, .int .u64 gone, .slice a' k cap']) (by simp [results, Try.results19, go_sem, t0, t1, t2]) rfl ?_
          exact ⟨_, rfl, HE.out.1, HE.out.2⟩
end Go.Proofs.Qxb6618173a
