/-
  Sums, suffixes, a copied slice: what the laws' own functions lean on.
-/
import Derived.Test.Qxb6618173aAdd
import Derived.Laws.CopyOwn
import Derived.Deep.DeepCutAuto
namespace Go.Proofs.Qxb6618173a
open Go.RowKit

theorem info3 : (Try.prog.info? 3).map (fun i => (i.zero, i.size, i.bytes)) = some (some (.int .i64 0), 1, 8) := by kernel_rfl
theorem size3 : (Try.prog.info? 3).map (·.size) = some 1 := by kernel_rfl

/-- 'zzc := make([]int, len(xs)); copy(zzc, xs)': a row of its own with the same numbers. -/
theorem copied (w : World) (x : Addr) (n c : Nat) (l : List Int) (ty : TypeId) (hl : l.length = n) (hr : Row w (some x) l) :
    ∃ w', (Builtin.copy_ #[22, 22] ty #[.slice (some ⟨w.heap.size, 0, none⟩) n n, .slice (some x) n c]).run Try.prog (w.alloc (.cells (madeCells #[.int .i64 0] n) 3)) = .ok (.int .i64 n) w' ∧
      Row w' (some ⟨w.heap.size, 0, none⟩) l ∧ Below w.heap.size w w' := by
  have hb0 : Below w.heap.size w (w.alloc (.cells (madeCells #[.int .i64 0] n) 3)) := (Below.refl _ _).alloc (Nat.le_refl _) _
  by_cases hn : n = 0
  · subst hn
    exact ⟨_, run_copy_none (P := Try.prog) _ 22 22 ty 3 _ _ 0 0 0 c Try.underlying22 size3 rfl, .inl (List.eq_nil_of_length_eq_zero hl), hb0⟩
  · have hcl : (l.map (Value.int .i64)).length = n := by simpa using hl
    have hr2 := hr.below hb0
    rcases hr2 with rfl | ⟨b, off, hx, hc⟩
    · simp at hl; omega
    · injection hx with hx
      subst hx
      have hg := heap_alloc_new w (.cells (madeCells #[.int .i64 0] n) 3)
      have hrun := run_copy_row (P := Try.prog) (w.alloc (.cells (madeCells #[.int .i64 0] n) 3)) 22 22 ty 3 w.heap.size 0 n n ⟨b, off, none⟩ n c _ 3 (l.map (Value.int .i64)) Try.underlying22 size3 hg (by rw [hcl]; exact (Nat.min_self n).symm)
        (fun j v hj => by
          have hj2 : j < l.length := by
            have := (List.getElem?_eq_some_iff.1 hj).1
            simpa using this
          rw [add_lit, hc j hj2]
          rw [List.getElem?_map, List.getElem?_eq_getElem hj2] at hj
          rw [List.getElem?_eq_getElem hj2]
          simpa using hj) (by rw [hcl, size_madeCells]; omega) (fun v hv => by obtain ⟨y, _, rfl⟩ := List.mem_map.1 hv; rfl)
      rw [hcl] at hrun
      refine ⟨_, hrun, .inr ⟨w.heap.size, 0, rfl, fun i hi => ?_⟩, below_setRow hb0 (Nat.le_refl _) _⟩
      rw [cell_setRow_same _ _ _ _ _ _ _ hg, Nat.zero_add]
      simp only [List.take_zero, List.nil_append, List.getElem?_toArray]
      rw [List.getElem?_append_left (by simpa using hi)]
      simp [hi]

def sumL : List Int → Int
  | [] => 0
  | x :: r => x + sumL r
theorem sumL_append (a b : List Int) : sumL (a ++ b) = sumL a + sumL b := by
  induction a with
  | nil => simp [sumL]
  | cons x r ih => simp only [List.cons_append, sumL, ih]; omega
theorem take_snoc {l : List Int} {n k : Nat} (hl : l.length = n) (hk : k < n) : l.take (k + 1) = l.take k ++ [l[k]?.getD 0] := by
  have h : k < l.length := by omega
  rw [List.take_succ_eq_append_getElem h]
  simp [h]
theorem sumL_snoc {l : List Int} {n k : Nat} (hl : l.length = n) (hk : k < n) : sumL (l.take (k + 1)) = sumL (l.take k) + l[k]?.getD 0 := by
  rw [take_snoc hl hk, sumL_append]; simp [sumL]
theorem esOf_snoc (eb : Nat) (l : List Int) (k : Nat) : esOf eb l (k + 1) = esOf eb l k ++ [(eb + 1 + k, l[k]?.getD 0)] := by
  simp [esOf, List.range_succ]
theorem sumS_esOf {eb : Nat} {l : List Int} {n : Nat} (hl : l.length = n) : ∀ k, k ≤ n → sumS (esOf eb l k) = sumL (l.take k)
  | 0, _ => rfl
  | k + 1, h => by
    rw [esOf_snoc, sumS_append, sumS_esOf hl k (by omega), sumL_snoc hl (by omega)]
    simp [sumS]
theorem nonneg_esOf {eb : Nat} {l : List Int} {n : Nat} (h : ∀ i, i < n → 0 ≤ l[i]?.getD 0) : nonneg (esOf eb l n) := by
  intro x hx
  obtain ⟨i, hi, e⟩ := List.getElem_of_mem hx
  rw [esOf_length] at hi
  have := esOf_at (eb := eb) (l := l) hi
  rw [List.getElem?_eq_getElem (by rw [esOf_length]; exact hi), e] at this
  injection this with this
  rw [this]
  exact h i hi

theorem size32 : (Try.prog.info? 32).map (·.size) = some 3 := by kernel_rfl
theorem neq29_same (a : Addr) (w : World) : (binOp .neq 29 (.pointer (some a)) (.pointer (some a))).run Try.prog w = .ok (.bool false) w := by
  obtain ⟨j, hj, _⟩ := Option.map_eq_some_iff.1 size32
  have h : ∀ d : Nat, (Op.equalIn (d + 1) 29 (.pointer (some a)) (.pointer (some a))).run Try.prog w = .ok true w := fun d => by
    simp [Op.equalIn, run_underlying Try.underlying29, sizeOf, typeInfo, hj, run_sameAddr_same]
  simp only [binOp]
  simp [Op.equal, Op.maxDepth, h 9999]

theorem trim_spec (he hby z : Int) (h1 : 1 ≤ he) (h2 : z ≤ hby) : ∀ (es : List (Nat × Int)), ∃ d, d ≤ es.length ∧ trim he hby z es = es.drop d ∧ ((es.drop d).length : Int) < he ∧ sumS (es.drop d) + z ≤ hby ∧
    (d = 0 ∨ ¬ (((es.drop d).length : Int) + 1 < he ∧ sumS (es.drop (d - 1)) + z ≤ hby))
  | [] => ⟨0, Nat.le_refl _, rfl, by simp; omega, by simp [sumS]; omega, .inl rfl⟩
  | x :: r => by
    by_cases h : ((x :: r).length : Int) < he ∧ sumS (x :: r) + z ≤ hby
    · exact ⟨0, Nat.zero_le _, trim_keep h, h.1, h.2, .inl rfl⟩
    · obtain ⟨d, hd, ht, ha, hb, hc⟩ := trim_spec he hby z h1 h2 r
      refine ⟨d + 1, by simp; omega, by rw [trim_drop h, ht]; rfl, by simpa using ha, by simpa using hb, .inr ?_⟩
      rcases hc with rfl | hc
      · intro hx
        apply h
        simpa using hx
      · intro hx
        apply hc
        have hd0 : d ≠ 0 := by
          rintro rfl
          apply h
          simpa using hx
        obtain ⟨d', rfl⟩ : ∃ d', d = d' + 1 := ⟨d - 1, by omega⟩
        simpa using hx

theorem Hist.draw {w : World} {B hb : Nat} {es : List (Nat × Int)} {by_ : Int} (n : Nat) (h : Hist w B hb es by_) : Hist (w.drewN n) B hb es by_ := h
theorem Evs.below {w w' : World} {b n : Nat} {first : Int} (hb : Below w.heap.size w w') (h : Evs w b first n) : Evs w' b first n := by
  refine ⟨h.1.of_block (hb.block b h.1.lt), fun i hi => ?_⟩
  have := h.2 i hi
  rw [hb.block _ (lt_of_heap this)]; exact this

theorem sumL_nonneg : ∀ {l : List Int}, (∀ i, i < l.length → 0 ≤ l[i]?.getD 0) → 0 ≤ sumL l
  | [], _ => Int.le_refl _
  | x :: r, h => by
    have h0 := h 0 (by simp)
    have h1 := sumL_nonneg (l := r) (fun i hi => by have := h (i + 1) (by simpa using hi); simpa using this)
    simp at h0
    simp only [sumL]; omega
theorem part_le {l : List Int} {k m j : Nat} (hl : l.length = k) (hn : ∀ i, i < k → 0 ≤ l[i]?.getD 0) (hm : m ≤ k) : sumL ((l.drop (k - m)).take j) ≤ sumL (l.take k) := by
  have e1 : sumL (l.take k) = sumL (l.take (k - m)) + sumL (l.drop (k - m)) := by
    rw [← sumL_append, List.take_append_drop, List.take_of_length_le (by omega)]
  have e2 : sumL (l.drop (k - m)) = sumL ((l.drop (k - m)).take j) + sumL ((l.drop (k - m)).drop j) := by
    rw [← sumL_append, List.take_append_drop]
  have p1 : 0 ≤ sumL (l.take (k - m)) := sumL_nonneg (fun i hi => by
    rw [List.length_take] at hi
    rw [List.getElem?_take, if_pos (by omega)]; exact hn i (by omega))
  have p2 : 0 ≤ sumL ((l.drop (k - m)).drop j) := sumL_nonneg (fun i hi => by
    simp only [List.length_drop] at hi
    rw [List.getElem?_drop, List.getElem?_drop]; exact hn _ (by omega))
  omega
theorem part_snoc {l : List Int} {k m j : Nat} (hl : l.length = k) (hm : m ≤ k) (hj : j < m) : sumL ((l.drop (k - m)).take (j + 1)) = sumL ((l.drop (k - m)).take j) + l[k - m + j]?.getD 0 := by
  have := sumL_snoc (l := l.drop (k - m)) (n := m) (k := j) (by rw [List.length_drop]; omega) hj
  rw [this, List.getElem?_drop]
theorem held_at {eb : Nat} {l : List Int} {k m j : Nat} (x : Nat × Int) (hm : m ≤ k) (hj : j < m) : ((esOf eb l k).drop (k - m) ++ [x])[j]? = some (eb + 1 + (k - m + j), l[k - m + j]?.getD 0) := by
  rw [List.getElem?_append_left (by simp [esOf_length]; omega), List.getElem?_drop, esOf_at (by omega)]
theorem held_last {eb : Nat} {l : List Int} {k m : Nat} (x : Nat × Int) (hm : m ≤ k) : ((esOf eb l k).drop (k - m) ++ [x])[m]? = some x := by
  have : ((esOf eb l k).drop (k - m)).length = m := by simp [esOf_length]; omega
  rw [List.getElem?_append_right (by omega), this]; simp

theorem sumS_drop {eb : Nat} {l : List Int} {k : Nat} (hl : l.length = k) (d : Nat) (hd : d ≤ k) : sumS ((esOf eb l k).drop d) = sumL (l.drop d) := by
  have e1 : sumS (esOf eb l k) = sumS ((esOf eb l k).take d) + sumS ((esOf eb l k).drop d) := by rw [← sumS_append, List.take_append_drop]
  have e2 : sumL l = sumL (l.take d) + sumL (l.drop d) := by rw [← sumL_append, List.take_append_drop]
  have e3 : (esOf eb l k).take d = esOf eb l d := by
    unfold esOf
    rw [← List.map_take, List.take_range, Nat.min_eq_left hd]
  have e4 := sumS_esOf (eb := eb) hl k (Nat.le_refl _)
  have e5 := sumS_esOf (eb := eb) hl d hd
  rw [List.take_of_length_le (by omega)] at e4
  rw [e3] at e1
  omega
theorem sumL_drop_back {l : List Int} {k m : Nat} (hl : l.length = k) (h : m < k) : sumL (l.drop (k - m - 1)) = l[k - 1 - m]?.getD 0 + sumL (l.drop (k - m)) := by
  have h2 : k - m - 1 < l.length := by omega
  rw [List.drop_eq_getElem_cons h2, show k - m - 1 + 1 = k - m by omega, sumL, show k - 1 - m = k - m - 1 by omega]
  simp [h2]

end Go.Proofs.Qxb6618173a
