/-
  Entering runs, plainly.
-/
import Derived.Test.Qxb6618191aPush
import Derived.Test.Qxb6618191aSorted
namespace Go.Proofs.Qxb6618191a

/-- enterRun on the runs that are held, oldest first. -/
def pushL (span p : Int) (X : List (Int × Int)) : List (Int × Int) :=
  match X.reverse with
  | [] => [(p, p)]
  | (a, b) :: r => if p - b ≤ span then r.reverse ++ [(a, p)] else X ++ [(p, p)]
def pushE (span p : Int) (A : List (Int × Int)) : List (Int × Int) :=
  match A with
  | [] => [(p, p)]
  | x :: X => x :: pushL span p X
theorem pushL_nil (span p : Int) : pushL span p [] = [(p, p)] := rfl
theorem pushL_snoc (span p a b : Int) (I : List (Int × Int)) : pushL span p (I ++ [(a, b)]) = if p - b ≤ span then I ++ [(a, p)] else I ++ [(a, b)] ++ [(p, p)] := by
  simp [pushL]
theorem pushE_nil (span p : Int) : pushE span p [] = [(p, p)] := rfl
theorem pushE_one (span p : Int) (x : Int × Int) : pushE span p [x] = [x] ++ [(p, p)] := rfl
theorem pushE_snoc (span p a b : Int) (x : Int × Int) (I : List (Int × Int)) : pushE span p (x :: I ++ [(a, b)]) = if p - b ≤ span then x :: I ++ [(a, p)] else x :: I ++ [(a, b)] ++ [(p, p)] := by
  show x :: pushL span p (I ++ [(a, b)]) = _
  rw [pushL_snoc]
  split <;> simp

theorem fs_app {J K : List (Int × Int)} {i : Nat} (h : i < J.length) : fs (J ++ K) i = fs J i := by
  unfold fs; rw [List.getElem?_append_left h]
theorem ls_app {J K : List (Int × Int)} {i : Nat} (h : i < J.length) : ls (J ++ K) i = ls J i := by
  unfold ls; rw [List.getElem?_append_left h]

/-- The shapes of a list of runs: none, one, or more. -/
theorem shape_of (G : List (Int × Int)) : G = [] ∨ (∃ x, G = [x]) ∨ ∃ x I a b, G = x :: I ++ [(a, b)] := by
  rcases G with _ | ⟨x, X⟩
  · exact .inl rfl
  · rcases X with _ | ⟨y, Y⟩
    · exact .inr (.inl ⟨x, rfl⟩)
    · obtain ⟨I, a, b, h, _⟩ := snoc_of (rs := y :: Y) rfl (by simp)
      exact .inr (.inr ⟨x, I, a, b, by rw [h]; rfl⟩)

/-- What the law says of the runs got from A by entering the positions E (all of them later than A's). -/
structure GotI (span : Int) (A : List (Int × Int)) (E : List Int) (G : List (Int × Int)) (top : Int) : Prop where
  ord : ordP G
  le_top : ∀ i, i < G.length → ls G i ≤ top
  len : A.length ≤ G.length
  some : E ≠ [] → 1 ≤ G.length
  head : 1 ≤ A.length → fs G 0 = fs A 0 ∧ ls G 0 = ls A 0
  firsts : ∀ i, 1 ≤ i → i < A.length → fs G i = fs A i
  lasts : ∀ i, 1 ≤ i → i + 1 < A.length → ls G i = ls A i
  last : 2 ≤ A.length → ls G (A.length - 1) = ls A (A.length - 1) ∨ ls G (A.length - 1) ∈ E
  fresh : ∀ i, A.length ≤ i → 1 ≤ i → i < G.length → fs G i ∈ E ∧ ls G i ∈ E
  zero : A.length = 0 → 1 ≤ G.length → fs G 0 = E.headD 0 ∧ ls G 0 = E.headD 0
  gap : ∀ i, 1 ≤ i → i + 1 < G.length → A.length ≤ i + 1 → span < fs G (i + 1) - ls G i

theorem got_start {span : Int} {A : List (Int × Int)} {top : Int} (ho : ordP A) (ht : ∀ i, i < A.length → ls A i ≤ top) : GotI span A [] A top :=
  ⟨ho, ht, Nat.le_refl _, fun h => absurd rfl h, fun _ => ⟨rfl, rfl⟩, fun _ _ _ => rfl, fun _ _ _ => rfl, fun _ => .inl rfl, fun i h1 _ h2 => by omega, fun h1 h2 => by omega, fun i h1 h2 h3 => by omega⟩

theorem headD_app {E : List Int} {p : Int} (h : E ≠ []) : (E ++ [p]).headD 0 = E.headD 0 := by
  cases E with
  | nil => exact absurd rfl h
  | cons x r => rfl

theorem got_append {span : Int} {A : List (Int × Int)} {E : List Int} {G : List (Int × Int)} {top p : Int} (h : GotI span A E G top) (hp : top < p) (hg : 2 ≤ G.length → span < p - ls G (G.length - 1)) (hE : A.length = 0 → (E = [] ↔ G = [])) : GotI span A (E ++ [p]) (G ++ [(p, p)]) p := by
  obtain ⟨n, hn⟩ : ∃ n, G.length = n := ⟨_, rfl⟩
  have hlen : (G ++ [(p, p)]).length = n + 1 := by simp [hn]
  have f1 : ∀ i, i < n → fs (G ++ [(p, p)]) i = fs G i := fun i hi => fs_app (by omega)
  have l1 : ∀ i, i < n → ls (G ++ [(p, p)]) i = ls G i := fun i hi => ls_app (by omega)
  have f2 : fs (G ++ [(p, p)]) n = p := fs_snoc hn
  have l2 : ls (G ++ [(p, p)]) n = p := ls_snoc hn
  have hl := h.len
  refine ⟨?_, ?_, by omega, fun _ => by omega, ?_, ?_, ?_, ?_, ?_, ?_, ?_⟩
  · intro i hi
    rw [hlen] at hi
    by_cases e : i = n
    · subst e
      rw [f2, l2]
      refine ⟨Int.le_refl _, fun h0 => ?_⟩
      rw [l1 _ (by omega)]
      have := h.le_top (i - 1) (by omega)
      omega
    · have := h.ord i (by omega)
      rw [f1 i (by omega), l1 i (by omega), l1 (i - 1) (by omega)]
      exact this
  · intro i hi
    rw [hlen] at hi
    by_cases e : i = n
    · subst e; rw [l2]; exact Int.le_refl _
    · rw [l1 i (by omega)]
      have := h.le_top i (by omega)
      omega
  · intro h0
    rw [f1 0 (by omega), l1 0 (by omega)]
    exact h.head h0
  · intro i h1 h2
    rw [f1 i (by omega)]
    exact h.firsts i h1 h2
  · intro i h1 h2
    rw [l1 i (by omega)]
    exact h.lasts i h1 h2
  · intro h2
    rw [l1 _ (by omega)]
    rcases h.last h2 with h3 | h3
    · exact .inl h3
    · exact .inr (List.mem_append_left _ h3)
  · intro i h1 h2 h3
    rw [hlen] at h3
    by_cases e : i = n
    · subst e; rw [f2, l2]; exact ⟨by simp, by simp⟩
    · rw [f1 i (by omega), l1 i (by omega)]
      have := h.fresh i h1 h2 (by omega)
      exact ⟨List.mem_append_left _ this.1, List.mem_append_left _ this.2⟩
  · intro h0 _
    by_cases e : n = 0
    · have hG : G = [] := List.eq_nil_of_length_eq_zero (by omega)
      have hE0 := (hE h0).2 hG
      subst hE0 hG
      exact ⟨rfl, rfl⟩
    · have hne : E ≠ [] := fun hc => by have := (hE h0).1 hc; subst this; simp at hn; omega
      rw [f1 0 (by omega), l1 0 (by omega), headD_app hne]
      exact h.zero h0 (by omega)
  · intro i h1 h2 h3
    rw [hlen] at h2
    by_cases e : i + 1 = n
    · have := hg (by omega)
      rw [e, f2, l1 i (by omega)]
      rw [hn] at this
      rw [show i = n - 1 by omega]
      exact this
    · rw [f1 (i + 1) (by omega), l1 i (by omega)]
      exact h.gap i h1 (by omega) h3

theorem got_extend {span : Int} {A : List (Int × Int)} {E : List Int} {J : List (Int × Int)} {a b top p : Int} (h : GotI span A E (J ++ [(a, b)]) top) (hp : top < p) (hJ : 1 ≤ J.length) (hE : A.length = 0 → (E = [] ↔ J ++ [(a, b)] = [])) : GotI span A (E ++ [p]) (J ++ [(a, p)]) p := by
  obtain ⟨n, hn⟩ : ∃ n, J.length = n := ⟨_, rfl⟩
  have hlen0 : (J ++ [(a, b)]).length = n + 1 := by simp [hn]
  have hlen : (J ++ [(a, p)]).length = n + 1 := by simp [hn]
  have f1 : ∀ i, i < n → fs (J ++ [(a, p)]) i = fs (J ++ [(a, b)]) i := fun i hi => (fs_app (by omega)).trans (fs_app (by omega)).symm
  have l1 : ∀ i, i < n → ls (J ++ [(a, p)]) i = ls (J ++ [(a, b)]) i := fun i hi => (ls_app (by omega)).trans (ls_app (by omega)).symm
  have f2 : fs (J ++ [(a, p)]) n = a := fs_snoc hn
  have l2 : ls (J ++ [(a, p)]) n = p := ls_snoc hn
  have f3 : fs (J ++ [(a, b)]) n = a := fs_snoc hn
  have l3 : ls (J ++ [(a, b)]) n = b := ls_snoc hn
  have hl := h.len
  have hon := h.ord n (by omega)
  have htn := h.le_top n (by omega)
  rw [l3] at htn
  rw [f3, l3] at hon
  refine ⟨?_, ?_, by omega, fun _ => by omega, ?_, ?_, ?_, ?_, ?_, ?_, ?_⟩
  · intro i hi
    rw [hlen] at hi
    by_cases e : i = n
    · subst e
      rw [f2, l2]
      refine ⟨by omega, fun h0 => ?_⟩
      rw [l1 _ (by omega)]
      exact hon.2 h0
    · have := h.ord i (by omega)
      rw [f1 i (by omega), l1 i (by omega), l1 (i - 1) (by omega)]
      exact this
  · intro i hi
    rw [hlen] at hi
    by_cases e : i = n
    · subst e; rw [l2]; exact Int.le_refl _
    · rw [l1 i (by omega)]
      have := h.le_top i (by omega)
      omega
  · intro h0
    rw [f1 0 (by omega), l1 0 (by omega)]
    exact h.head h0
  · intro i h1 h2
    by_cases e : i = n
    · subst e
      have := h.firsts i h1 h2
      rw [f2, ← this, f3]
    · rw [f1 i (by omega)]
      exact h.firsts i h1 h2
  · intro i h1 h2
    rw [l1 i (by omega)]
    exact h.lasts i h1 h2
  · intro h2
    by_cases e : A.length - 1 = n
    · rw [e, l2]; exact .inr (by simp)
    · rw [l1 _ (by omega)]
      rcases h.last h2 with h3 | h3
      · exact .inl h3
      · exact .inr (List.mem_append_left _ h3)
  · intro i h1 h2 h3
    rw [hlen] at h3
    have hfr := h.fresh i h1 h2 (by omega)
    by_cases e : i = n
    · subst e
      rw [f2, l2]
      rw [f3] at hfr
      exact ⟨List.mem_append_left _ hfr.1, by simp⟩
    · rw [f1 i (by omega), l1 i (by omega)]
      exact ⟨List.mem_append_left _ hfr.1, List.mem_append_left _ hfr.2⟩
  · intro h0 _
    have hne : E ≠ [] := fun hc => by have := (hE h0).1 hc; simp at this
    rw [f1 0 (by omega), l1 0 (by omega), headD_app hne]
    exact h.zero h0 (by omega)
  · intro i h1 h2 h3
    rw [hlen] at h2
    have := h.gap i h1 (by omega) h3
    by_cases e : i + 1 = n
    · rw [e] at this ⊢
      rw [f2, l1 i (by omega)]
      rw [f3] at this
      exact this
    · rw [f1 (i + 1) (by omega), l1 i (by omega)]
      exact this

theorem got_step {span : Int} {A : List (Int × Int)} {E : List Int} {G : List (Int × Int)} {top p : Int} (h : GotI span A E G top) (hp : top < p) (hE : A.length = 0 → (E = [] ↔ G = [])) : GotI span A (E ++ [p]) (pushE span p G) p := by
  rcases shape_of G with rfl | ⟨x, rfl⟩ | ⟨x, I, a, b, rfl⟩
  · exact got_append h hp (fun h2 => by simp at h2) hE
  · exact got_append h hp (fun h2 => by simp at h2) hE
  · rw [pushE_snoc]
    split
    · exact got_extend (J := x :: I) h hp (by simp) hE
    · rename_i hgt
      refine got_append h hp (fun _ => ?_) hE
      rw [show (x :: I ++ [(a, b)]).length - 1 = (x :: I).length by simp, ls_snoc rfl]
      omega

/-- All positions entered, one after the other. -/
def enterL (span : Int) (A : List (Int × Int)) (E : List Int) : List (Int × Int) := E.foldl (fun G p => pushE span p G) A
theorem enterL_snoc (span : Int) (A : List (Int × Int)) (E : List Int) (p : Int) : enterL span A (E ++ [p]) = pushE span p (enterL span A E) := by
  simp [enterL]
theorem pushE_ne (span p : Int) (G : List (Int × Int)) : pushE span p G ≠ [] := by
  cases G <;> simp [pushE]
/-- coverOf, plainly. -/
def covR (span : Int) (rs : List (Int × Int)) : List (Int × Int) := rs.foldl (fun o r => pushC o r.1 (r.2 + span - 1)) []
def covX (span : Int) (out : List (Int × Int)) (xs : List Int) : List (Int × Int) := xs.foldl (fun o p => pushC o p (p + span - 1)) out


theorem push_push {C : List (Int × Int)} {a b p span : Int} (h1 : b < p) (h2 : p - b ≤ span) : pushC (pushC C a (b + span - 1)) p (p + span - 1) = pushC C a (p + span - 1) := by
  by_cases hn : C.length = 0
  · obtain rfl := List.eq_nil_of_length_eq_zero hn
    rw [pushC_nil, pushC_nil]
    have := pushC_snoc [] a (b + span - 1) p (p + span - 1)
    rw [List.nil_append] at this
    rw [this, if_pos (by omega), if_pos (by omega)]
    rfl
  · obtain ⟨I, c, d, rfl, _⟩ := snoc_of rfl (show 0 < C.length by omega)
    rw [pushC_snoc, pushC_snoc]
    by_cases h3 : a ≤ d + 1
    · rw [if_pos h3, if_pos h3, pushC_snoc]
      by_cases h4 : d < b + span - 1
      · rw [if_pos h4, if_pos (by omega), if_pos (by omega), if_pos (by omega)]
      · rw [if_neg h4, if_pos (by omega)]
    · rw [if_neg h3, if_neg h3, pushC_snoc, if_pos (by omega), if_pos (by omega)]

theorem covR_snoc (span : Int) (J : List (Int × Int)) (a b : Int) : covR span (J ++ [(a, b)]) = pushC (covR span J) a (b + span - 1) := by
  simp [covR]

theorem cov_push {span p top : Int} {G : List (Int × Int)} (hp : top < p) (ht : ∀ i, i < G.length → ls G i ≤ top) : covR span (pushE span p G) = pushC (covR span G) p (p + span - 1) := by
  rcases shape_of G with rfl | ⟨x, rfl⟩ | ⟨x, I, a, b, rfl⟩
  · rfl
  · rw [pushE_one, covR_snoc]
  · rw [pushE_snoc]
    have hb := ht (x :: I).length (by simp)
    rw [ls_snoc rfl] at hb
    split
    · rw [covR_snoc, covR_snoc, push_push (by omega) (by assumption)]
    · rw [covR_snoc]

theorem covX_snoc (span : Int) (C : List (Int × Int)) (E : List Int) (p : Int) : covX span C (E ++ [p]) = pushC (covX span C E) p (p + span - 1) := by
  simp [covX]

/-- The positions entered: in order, and later than top. -/
structure Later (top : Int) (E : List Int) : Prop where
  inc : Inc E
  gt : ∀ i, i < E.length → top < E[i]?.getD 0

/-- The law, for positions entered in order after A's. -/
theorem enter_law {span : Int} {A : List (Int × Int)} {top : Int} (ho : ordP A) (ht : ∀ i, i < A.length → ls A i ≤ top) (E : List Int) (hE : Later top E) (k : Nat) (hk : k ≤ E.length) :
    ∃ t, GotI span A (E.take k) (enterL span A (E.take k)) t ∧ (k < E.length → t < E[k]?.getD 0) ∧ covR span (enterL span A (E.take k)) = covX span (covR span A) (E.take k) ∧ (A.length = 0 → (E.take k = [] ↔ enterL span A (E.take k) = [])) := by
  induction k with
  | zero =>
    rw [List.take_zero]
    exact ⟨top, got_start ho ht, fun h => hE.gt 0 h, rfl, fun h => ⟨fun _ => List.eq_nil_of_length_eq_zero h, fun _ => rfl⟩⟩
  | succ k ih =>
    obtain ⟨t, h1, h2, h3, h4⟩ := ih (by omega)
    have hlt : k < E.length := by omega
    have hx : E.take (k + 1) = E.take k ++ [E[k]?.getD 0] := by rw [List.take_succ_eq_append_getElem hlt, List.getElem?_eq_getElem hlt]; rfl
    refine ⟨E[k]?.getD 0, ?_, fun h => hE.inc k (k + 1) (by omega) h, ?_, fun h0 => ?_⟩
    · rw [hx, enterL_snoc]
      exact got_step h1 (h2 hlt) h4
    · rw [hx, enterL_snoc, covX_snoc, cov_push (h2 hlt) h1.le_top, h3]
    · rw [hx, enterL_snoc]
      exact ⟨fun h => absurd h (by simp), fun h => absurd h (pushE_ne _ _ _)⟩
end Go.Proofs.Qxb6618191a
