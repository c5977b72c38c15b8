/-
  The plain facts that the law on enterRun asks for; the row of positions that were entered.
-/
import Derived.Test.Qxb6618191aCover
import Derived.Test.Qxb6618191aFits4
import Derived.Test.Qxb6618191aLaw3
namespace Go.Proofs.Qxb6618191a
open Go.RowKit

theorem ord_ge {A : List (Int × Int)} (ho : ordP A) {i : Nat} (hi : i < A.length) : fs A 0 ≤ ls A i := by
  induction i with
  | zero => exact (ho 0 hi).1
  | succ j ih =>
    have h1 := ih (by omega)
    have h2 := ho (j + 1) hi
    have h3 := h2.2 (by omega)
    rw [show j + 1 - 1 = j by omega] at h3
    omega
theorem ord_le {A : List (Int × Int)} (ho : ordP A) {i : Nat} (hi : i < A.length) : ls A i ≤ ls A (A.length - 1) := by
  by_cases e : i = A.length - 1
  · rw [← e]; exact Int.le_refl _
  · exact Int.le_of_lt (ord_lt ho (show i < A.length - 1 by omega) (by omega))

theorem pushE_len (span p : Int) (A : List (Int × Int)) : A.length ≤ (pushE span p A).length ∧ (pushE span p A).length ≤ A.length + 1 := by
  rcases shape_of A with rfl | ⟨x, rfl⟩ | ⟨x, I, a, b, rfl⟩
  · simp [pushE_nil]
  · simp [pushE_one]
  · rw [pushE_snoc]
    split <;> simp
theorem enterL_len (span : Int) (E : List Int) : ∀ A : List (Int × Int), (enterL span A E).length ≤ A.length + E.length := by
  induction E with
  | nil => intro A; exact Nat.le_refl _
  | cons p E ih =>
    intro A
    have h1 := ih (pushE span p A)
    have h2 := (pushE_len span p A).2
    have h3 : enterL span A (p :: E) = enterL span (pushE span p A) E := rfl
    rw [h3, List.length_cons]
    omega

theorem mem_ends {rs : List (Int × Int)} {x : Int × Int} (h : x ∈ rs) : ∃ i, i < rs.length ∧ x.1 = fs rs i ∧ x.2 = ls rs i := by
  obtain ⟨i, hi⟩ := List.mem_iff_getElem?.1 h
  have hlt := (List.getElem?_eq_some_iff.1 hi).1
  have h2 := run_at rfl hlt
  rw [hi] at h2
  injection h2 with h2
  exact ⟨i, hlt, by rw [h2], by rw [h2]⟩

/-- All that the law asks for. -/
structure Facts (span : Int) (A : List (Int × Int)) (E : List Int) : Prop where
  step : ∀ j, j < E.length → 2 ≤ (enterL span A (E.take j)).length → 0 ≤ ls (enterL span A (E.take j)) ((enterL span A (E.take j)).length - 1) ∧ ls (enterL span A (E.take j)) ((enterL span A (E.take j)).length - 1) ≤ E[j]?.getD 0
  posA : PosR A
  posG : PosR (enterL span A E)
  posE : PosX E
  inc : Inc E
  cov : covR span (enterL span A E) = covX span (covR span A) E
  got : ∃ t, GotI span A E (enterL span A E) t

theorem facts_of {held : Int} {hl : Bool} {F L : List Int} {head pos : Int} {more : List Int} {span : Int} {A : List (Int × Int)} {low : Int} (f : EFit held hl F L head pos more span A low) : Facts span A (pos :: more) := by
  have hlow : 0 ≤ low := by
    by_cases h : A.length = 0
    · have := f.none h; omega
    · obtain ⟨h1, h2, h3⟩ := f.some (by omega)
      have := ord_ge f.ord (show A.length - 1 < A.length by omega)
      omega
  have hs : ∀ i, i < more.length → (pos :: more)[i]?.getD 0 < (pos :: more)[i + 1]?.getD 0 := by
    intro i hi
    have h1 := (f.more i hi).1
    have h2 : (pos :: more)[i]?.getD 0 = if i = 0 then pos else more[i - 1]?.getD 0 := by
      cases i with
      | zero => rfl
      | succ i => rw [if_neg (by omega)]; rfl
    have h3 : (pos :: more)[i + 1]?.getD 0 = more[i]?.getD 0 := rfl
    rw [h2, h3]
    exact h1
  have hinc : Inc (pos :: more) := by
    intro i j hij hj
    rw [List.length_cons] at hj
    induction j with
    | zero => omega
    | succ j ih =>
      have h1 := hs j (by omega)
      by_cases e : i = j
      · subst e; exact h1
      · have := ih (by omega) (by omega); omega
  have h0 : (pos :: more)[0]?.getD 0 = pos := rfl
  have hge : ∀ i, i < (pos :: more).length → low ≤ (pos :: more)[i]?.getD 0 := by
    intro i hi
    by_cases e : i = 0
    · subst e; rw [h0]; exact f.p1
    · have := hinc 0 i (by omega) hi
      have := f.p1
      rw [h0] at *
      omega
  have hle : ∀ i, i < (pos :: more).length → (pos :: more)[i]?.getD 0 ≤ 4611686018427387903 := by
    intro i hi
    cases i with
    | zero => rw [h0]; exact f.p2
    | succ i => exact (f.more i (by rw [List.length_cons] at hi; omega)).2
  have hposE : PosX (pos :: more) := by
    intro x hx
    obtain ⟨i, hi, rfl⟩ := mem_at.1 hx
    have := hge i hi
    have := hle i hi
    omega
  have hposA : PosR A := by
    intro x hx
    obtain ⟨i, hi, _, h2⟩ := mem_ends hx
    have := f.some (by omega)
    have := ord_ge f.ord hi
    have := ord_le f.ord hi
    omega
  have ht : ∀ i, i < A.length → ls A i ≤ low - 1 := by
    intro i hi
    have := f.some (by omega)
    have := ord_le f.ord hi
    omega
  have hE : Later (low - 1) (pos :: more) := ⟨hinc, fun i hi => by have := hge i hi; omega⟩
  have hnn : ∀ (j : Nat) (t : Int), GotI span A ((pos :: more).take j) (enterL span A ((pos :: more).take j)) t → ∀ i, i < (enterL span A ((pos :: more).take j)).length → 0 ≤ ls (enterL span A ((pos :: more).take j)) i := by
    intro j t g i hi
    have h1 := ord_ge g.ord hi
    by_cases hA : A.length = 0
    · have h2 := (g.zero hA (by omega)).1
      have h3 : 0 ≤ ((pos :: more).take j).headD 0 := by
        cases j with
        | zero => exact Int.le_refl _
        | succ j => have := f.p1; show 0 ≤ pos; omega
      omega
    · have h2 := (g.head (by omega)).1
      have := f.some (by omega)
      omega
  refine ⟨?_, hposA, ?_, hposE, hinc, ?_, ?_⟩
  · intro j hj h2
    obtain ⟨t, g, hlt, _, _⟩ := enter_law (span := span) f.ord ht (pos :: more) hE j (by omega)
    have h3 := hnn j t g _ (show (enterL span A ((pos :: more).take j)).length - 1 < (enterL span A ((pos :: more).take j)).length by omega)
    have h4 := g.le_top _ (show (enterL span A ((pos :: more).take j)).length - 1 < (enterL span A ((pos :: more).take j)).length by omega)
    have h5 := hlt hj
    exact ⟨h3, by omega⟩
  · obtain ⟨t, g, _, _, _⟩ := enter_law (span := span) f.ord ht (pos :: more) hE _ (Nat.le_refl _)
    have hnn2 := hnn _ t g
    rw [List.take_length] at g hnn2
    intro x hx
    obtain ⟨i, hi, _, h2⟩ := mem_ends hx
    refine ⟨by rw [h2]; exact hnn2 i hi, ?_⟩
    rw [h2]
    have hup : ∀ z, z ∈ pos :: more → z ≤ 4611686018427387903 := fun z hz => (hposE z hz).2
    have hupA : ∀ i, i < A.length → ls A i ≤ 4611686018427387903 := fun i hi => (posR_at hposA rfl hi).2
    by_cases hi0 : i = 0
    · subst hi0
      by_cases hA : A.length = 0
      · rw [(g.zero hA hi).2]; exact f.p2
      · rw [(g.head (by omega)).2]; exact hupA 0 (by omega)
    · by_cases h1 : A.length ≤ i
      · exact hup _ (g.fresh i h1 (by omega) hi).2
      · by_cases h3 : i + 1 < A.length
        · rw [g.lasts i (by omega) h3]; exact hupA i (by omega)
        · have h4 : i = A.length - 1 := by omega
          rcases g.last (by omega) with h5 | h5
          · rw [h4, h5]; exact hupA _ (by omega)
          · rw [h4]; exact hup _ h5
  · obtain ⟨t, _, _, hc, _⟩ := enter_law (span := span) f.ord ht (pos :: more) hE _ (Nat.le_refl _)
    rw [List.take_length] at hc
    exact hc
  · obtain ⟨t, g, _, _, _⟩ := enter_law (span := span) f.ord ht (pos :: more) hE _ (Nat.le_refl _)
    rw [List.take_length] at g
    exact ⟨t, g⟩

/-- The runs held, and the list behind the oldest. -/
theorem absR_held {held of_ ol : Int} {hl : Bool} {F L : List Int} {hd n : Nat} (hF : F.length = n) (hL : L.length = n) (hs : shapeP held hl n hd) : ((absR held of_ ol F L hd).length : Int) = held := by
  unfold absR
  obtain ⟨h1, _, h3, _, _, h6⟩ := hs
  split
  · simp; omega
  · rename_i h0
    have := h6 h0
    simp only [List.length_cons, List.length_drop, List.length_zip]
    omega
theorem pre_tail {held of_ ol : Int} {hl : Bool} {F L : List Int} {hd n : Nat} (hF : F.length = n) (hL : L.length = n) (hs : shapeP held hl n hd) : (F.zip L).take hd ++ (absR held of_ ol F L hd).tail = F.zip L := by
  unfold absR
  obtain ⟨h1, _, h3, _, h5, h6⟩ := hs
  split
  · rename_i h0
    have := h5 h0
    simp only [List.tail_nil, List.append_nil]
    exact List.take_of_length_le (by rw [List.length_zip]; omega)
  · simp
theorem pre_len {F L : List Int} {hd n : Nat} (hF : F.length = n) (hL : L.length = n) (hh : hd ≤ n) : ((F.zip L).take hd).length = hd := by
  simp only [List.length_take, List.length_zip]; omega
theorem pre_at {F L : List Int} {hd n i : Nat} (hF : F.length = n) (hL : L.length = n) (hh : hd ≤ n) (hi : i < hd) (T : List (Int × Int)) : (fsL ((F.zip L).take hd ++ T))[i]?.getD 0 = F[i]?.getD 0 ∧ (lsL ((F.zip L).take hd ++ T))[i]?.getD 0 = L[i]?.getD 0 := by
  have h1 : ((F.zip L).take hd ++ T)[i]? = some (F[i]?.getD 0, L[i]?.getD 0) := by
    rw [List.getElem?_append_left (by rw [pre_len hF hL hh]; exact hi), List.getElem?_take, if_pos hi]
    exact zip_at hF hL (by omega)
  constructor
  · unfold fsL; rw [List.getElem?_map, h1]; rfl
  · unfold lsL; rw [List.getElem?_map, h1]; rfl

/-! ### rows of ints that grow -/
theorem owns_row {w : World} {base : Nat} {a : Option Addr} {n cap : Nat} {xs : List Int} (h : w.ownsRow base 3 1 (.slice a n cap) n (xs.map (Value.int .i64))) : Row w a xs := by
  by_cases h0 : xs = []
  · exact .inl h0
  · have hl := h.1
    rw [List.length_map] at hl
    have hp : 0 < xs.length := List.length_pos_iff.2 h0
    obtain ⟨g, rfl, _, _, hc, _⟩ := owns_at h (by omega)
    refine .inr ⟨g, 0, rfl, fun i hi => ?_⟩
    rw [Nat.zero_add, hc i (by omega), List.getElem?_map, List.getElem?_eq_getElem hi]
    rfl

theorem app_ints {w : World} {base : Nat} {a : Option Addr} {n cap : Nat} {xs : List Int} (ho : w.ownsRow base 3 1 (.slice a n cap) n (xs.map (Value.int .i64))) (src : Option Addr) (m c : Nat) (ys : List Int) (hy : ys.length = m) (hr : Row w src ys) (h0 : src = none → m = 0 ∧ c = 0) (hnm : n + m ≤ 1000000) (hb : base ≤ w.heap.size) (ty : TypeId) :
    ∃ a' cap' w', (Builtin.append_ #[22, 22] ty #[.slice a n cap, .slice src m c]).run Try.prog w = .ok (.slice a' (n + m) cap') w' ∧ w'.ownsRow base 3 1 (.slice a' (n + m) cap') (n + m) ((xs ++ ys).map (Value.int .i64)) ∧ Below base w w' := by
  obtain ⟨i, hi, hzz⟩ := Option.map_eq_some_iff.1 info3
  simp only [Prod.mk.injEq] at hzz
  obtain ⟨hz, hs2, hb2⟩ := hzz
  cases src with
  | none =>
    obtain ⟨rfl, rfl⟩ := h0 rfl
    obtain rfl := List.eq_nil_of_length_eq_zero hy
    refine ⟨a, cap, w, run_append_owned_none (P := Try.prog) (w := w) base 22 ty 3 i 1 Try.underlying22 hi _ n _ ho, ?_, Below.refl _ _⟩
    rw [List.append_nil]
    exact ho
  | some x =>
    obtain ⟨v', w', hrun, ho2, hg, _⟩ := run_append_own (P := Try.prog) w base 22 ty 3 i _ 1 8 Try.underlying22 hi hz hs2 hb2 rfl (by omega) (.slice a n cap) n _ ho x m c (ys.map (Value.int .i64)) (by rw [List.length_map]; omega)
      (fun j u hj => by
        have hj2 : j < ys.length := by
          have := (List.getElem?_eq_some_iff.1 hj).1
          simpa using this
        rcases hr with rfl | ⟨b, off, hx, hc⟩
        · simp at hj2
        · injection hx with hx
          subst hx
          rw [add_lit, hc j hj2]
          rw [List.getElem?_map, List.getElem?_eq_getElem hj2] at hj
          rw [List.getElem?_eq_getElem hj2]
          simpa using hj)
      (fun v hv => by obtain ⟨y, _, rfl⟩ := List.mem_map.1 hv; rfl) (by unfold maxLen; omega) (by omega) hb
    obtain ⟨a', cap', rfl⟩ := owns_slice ho2
    refine ⟨a', cap', w', hrun, ?_, (Below.refl base w).grown hg hb (fun k hk => (ho.lt k hk).1)⟩
    rw [List.map_append]
    exact ho2

/-- 'entered := make([]int, 0, c)', and the position appended: the world behind it, and the row. -/
theorem made_room (c : Nat) (w : World) (hc : c ≤ 1000000) : (Instr.makeSlice 22 (.int .i64 0) (.int .i64 (c : Int))).run Try.prog w = .ok (.slice (some ⟨w.heap.size, 0, none⟩) 0 c) (w.alloc (.cells (madeCells #[.int .i64 0] c) 3)) := by
  obtain ⟨i, hi, hzz⟩ := Option.map_eq_some_iff.1 info3
  simp only [Prod.mk.injEq] at hzz
  obtain ⟨hz, hs, hb⟩ := hzz
  have hr := run_make (P := Try.prog) w 22 3 i _ Try.underlying22 hi hz .i64 .i64 ((0 : Nat) : Int) c (by omega) (by omega) (by rw [hb]; omega) (by omega)
  simp only [Int.toNat_natCast, hs, Nat.mul_one] at hr
  exact hr

theorem owns_room (w : World) (c base : Nat) (hb : base ≤ w.heap.size) (hc : c ≤ 1000000) :
    (w.alloc (.cells (madeCells #[.int .i64 0] c) 3)).ownsRow base 3 1 (.slice (some ⟨w.heap.size, 0, none⟩) 0 c) 0 (([] : List Int).map (Value.int .i64)) := by
  have := World.ownsRow_made (base := base) (e := 3) (size := 1) w (madeCells #[.int .i64 0] c) c hb (by unfold maxLen; omega) (by rw [size_madeCells, Nat.mul_one])
  simpa using this
end Go.Proofs.Qxb6618191a
