/-
  What drop leaves, plainly; the three calls on entries, with or without a later list.
-/
import Derived.Test.Qxb6618191aDrop
import Derived.Test.Qxb6618191aZZDrop
import Derived.Test.Qxb6618191aRead
import Derived.Test.Qxb6618191aInts
import Derived.Test.Qxb6618191aRunsFrom
namespace Go.Proofs.Qxb6618191a
open Go.RowKit

theorem ord_lt {A : List (Int × Int)} (ho : ordP A) {i j : Nat} (hij : i < j) (hj : j < A.length) : ls A i < ls A j := by
  induction j with
  | zero => omega
  | succ k ih =>
    have h1 := ho (k + 1) hj
    have h2 := h1.2 (by omega)
    rw [show k + 1 - 1 = k by omega] at h2
    by_cases e : i = k
    · subst e; omega
    · have := ih (by omega) (by omega); omega

theorem keep_drop {A : List (Int × Int)} {pos : Int} {i : Nat} (h1 : ∀ j, j < i → ls A j < pos) (h2 : ∀ j, i ≤ j → j < A.length → pos ≤ ls A j) : keepR A pos = A.drop i := by
  unfold keepR
  conv => lhs; rw [← List.take_append_drop i A]
  rw [List.filter_append]
  have e1 : (A.take i).filter (fun x => decide (pos ≤ x.2)) = [] := by
    rw [List.filter_eq_nil_iff]
    intro x hx
    obtain ⟨j, hj⟩ := List.mem_iff_getElem?.1 hx
    rw [List.getElem?_take] at hj
    split at hj
    · rename_i hji
      have hx2 : x.2 = ls A j := by unfold ls; rw [hj]; rfl
      have := h1 j hji
      simp only [decide_eq_true_eq]
      omega
    · cases hj
  have e2 : (A.drop i).filter (fun x => decide (pos ≤ x.2)) = A.drop i := by
    rw [List.filter_eq_self]
    intro x hx
    obtain ⟨j, hj⟩ := List.mem_iff_getElem?.1 hx
    rw [List.getElem?_drop] at hj
    have hx2 : x.2 = ls A (i + j) := by unfold ls; rw [hj]; rfl
    have hlt := (List.getElem?_eq_some_iff.1 hj).1
    have := h2 (i + j) (by omega) hlt
    simp only [decide_eq_true_eq]
    omega
  rw [e1, e2, List.nil_append]

/-- What the law asks of drop. -/
structure LawS (A keep : List (Int × Int)) (rs0 : List (Int × Int)) (hd0 : Nat) (h of_ ol : Int) (rs : List (Int × Int)) (hd : Nat) : Prop where
  held : h = (keep.length : Int)
  hd_le : hd ≤ rs.length
  len : rs.length ≤ rs0.length
  none : keep.length = 0 → rs = [] ∧ hd = 0 ∧ of_ = fs A (A.length - 1) ∧ ol = ls A (A.length - 1)
  some : keep.length ≠ 0 → (of_, ol) :: rs.drop hd = keep ∧ h - 1 = (rs.length : Int) - hd
  all : keep.length ≠ 0 → keep.length = A.length → rs = rs0 ∧ hd = hd0
  part : keep.length ≠ 0 → keep.length ≠ A.length → 2 * hd ≤ rs.length

theorem law_of {A : List (Int × Int)} {pos : Int} {rs0 : List (Int × Int)} {hd0 : Nat} {h of_ ol : Int} {rs : List (Int × Int)} {hd : Nat} (ho : ordP A) (d : DropD A pos rs0 hd0 h of_ ol rs hd) : LawS A (keepR A pos) rs0 hd0 h of_ ol rs hd := by
  rcases d with ⟨i, s, hp⟩ | ⟨h1, h2, h3, h4, h5, h6⟩
  · have hk : keepR A pos = A.drop i := by
      refine keep_drop s.ended (fun j hij hj => ?_)
      have hi := s.isL
      by_cases e : i = j
      · subst e; omega
      · have := ord_lt ho (show i < j by omega) hj; omega
    have hl := s.lt
    have hc := s.count
    have hkl : (keepR A pos).length = A.length - i := by rw [hk, List.length_drop]
    have hh := s.held
    refine ⟨by omega, s.hd_le, s.len, by omega, fun _ => ⟨?_, by omega⟩, fun _ he => s.first (by omega), fun _ he => s.later (by omega)⟩
    rw [hk, s.rest, s.isF, s.isL]
    have hx := run_at rfl hl
    obtain ⟨h7, h8⟩ := List.getElem?_eq_some_iff.1 hx
    rw [List.drop_eq_getElem_cons h7, h8]
  · have hk : keepR A pos = A.drop A.length := keep_drop h1 (fun j hij hj => by omega)
    rw [List.drop_length] at hk
    subst h2 h3 h4 h5 h6
    rw [hk]
    exact ⟨rfl, by simp, by simp, fun _ => ⟨rfl, rfl, rfl, rfl⟩, fun h => absurd rfl h, fun h => absurd rfl h, fun h => absurd rfl h⟩

theorem new_any (held of_ ol : Int) (hl : Bool) (aF aL : Option Addr) (n cF cL hd : Nat) (F L : List Int) (w : World) (hF : F.length = n) (hL : L.length = n) (hn : n ≤ 65536) (rF : Row w aF F) (rL : Row w aL L) (hf : hl = false → n = 0 ∧ hd = 0) :
    Calls Try.prog 9 #[.int .i64 held, .int .i64 of_, .int .i64 ol, .bool hl, .slice aF n cF, .slice aL n cL, .int .i64 hd] w fun e w' => e = .returned (.pointer (some ⟨w.heap.size, 0, none⟩)) ∧
      Ent w.heap.size w' w.heap.size held of_ ol hl (F.zip L) hd ∧ Below w.heap.size w w' := by
  cases hl
  · obtain ⟨rfl, rfl⟩ := hf rfl
    obtain rfl : F = [] := List.eq_nil_of_length_eq_zero hF
    exact new_no held of_ ol aF aL 0 cF cL w
  · exact new_yes held of_ ol aF aL n cF cL hd F L w hF hL hn rF rL

theorem read_any (B e : Nat) (held of_ ol : Int) (hl : Bool) (rs : List (Int × Int)) (hd : Nat) (w : World) (hn6 : rs.length ≤ 200000) (h : Ent B w e held of_ ol hl rs hd) :
    Calls Try.prog 11 #[.pointer (some ⟨e, 0, none⟩)] w fun x w' => ∃ aF aL n cF cL, x = .returned (.tuple #[.int .i64 held, .int .i64 of_, .int .i64 ol, .bool hl, .slice aF n cF, .slice aL n cL, .int .i64 hd]) ∧ n = rs.length ∧
      Row w' aF (fsL rs) ∧ Row w' aL (lsL rs) ∧ Below w.heap.size w w' := by
  cases hl
  · obtain ⟨_, h2, h3⟩ := EntN.of h
    subst h2 h3
    refine (read_no B e held of_ ol [] 0 w h).mono ?_
    rintro x w' ⟨rfl, rfl⟩
    exact ⟨none, none, 0, 0, 0, rfl, rfl, .inl rfl, .inl rfl, Below.refl _ _⟩
  · refine (read_yes B e held of_ ol rs rs.length hd w rfl hn6 h).mono ?_
    rintro x w' ⟨rfl, h1, h2, h3⟩
    exact ⟨_, _, _, _, _, rfl, rfl, h1, h2, h3⟩

theorem zzdrop_any (B e : Nat) (pos h of_ ol : Int) (hl : Bool) (rs : List (Int × Int)) (hd : Nat) (A : List (Int × Int)) (w : World) (hE : Ent B w e h of_ ol hl rs hd) (hS : DropS A pos rs hd 0 h of_ ol rs hd) (hA : A.length ≤ 100000) (hR : rs.length ≤ 65536) :
    Calls Try.prog 10 #[.pointer (some ⟨e, 0, none⟩), .int .i64 pos] w fun x w' => x = .returned (.tuple #[]) ∧ (∃ h' of' ol' rs' hd', Ent B w' e h' of' ol' hl rs' hd' ∧ DropD A pos rs hd h' of' ol' rs' hd') ∧ Below B w w' := by
  refine zzdrop e pos w ?_
  cases hl
  · obtain ⟨hN, rfl, rfl⟩ := EntN.of hE
    have hc := hS.count
    obtain rfl : h = 1 := by simp at hc; omega
    exact drop_no B e pos of_ ol A w hN hS
  · exact drop_yes B e pos h of_ ol rs hd A w hE hS hA hR

/-- The entries as they stand ahead of drop. -/
theorem dropS_start {held of_ ol pos : Int} {hl : Bool} {F L : List Int} {hd n : Nat} (hF : F.length = n) (hL : L.length = n) (h1 : 1 ≤ held) (hs : shapeP held hl n hd) : DropS (absR held of_ ol F L hd) pos (F.zip L) hd 0 held of_ ol (F.zip L) hd := by
  have hz : (F.zip L).length = n := by rw [List.length_zip]; omega
  have h0 : ¬ held = 0 := by omega
  have ha : absR held of_ ol F L hd = (of_, ol) :: (F.zip L).drop hd := by rw [absR, if_neg h0]
  have h2 := hs.2.2.1
  have h3 := hs.2.2.2.2.2 h0
  rw [ha]
  refine ⟨by simp, fun j hj => by omega, rfl, rfl, ?_, rfl, by omega, Nat.le_refl _, fun _ => ⟨rfl, rfl⟩, fun h => by omega⟩
  simp only [List.length_cons, List.length_drop, hz]
  omega
theorem shape_law {A keep rs0 : List (Int × Int)} {hd0 : Nat} {of_ ol : Int} {rs : List (Int × Int)} {hd nk n2 n : Nat} {hl : Bool} {held : Int} (h : LawS A keep rs0 hd0 nk of_ ol rs hd) (hk : nk = keep.length) (h2 : n2 = rs.length) (hs : shapeP held hl n hd0) (hz : rs0.length = n) : shapeP nk hl n2 hd := by
  have h3 := h.hd_le
  have h4 := h.len
  refine ⟨by omega, by omega, by omega, fun hf => ?_, fun h0 => ?_, fun h0 => ?_⟩
  · have := hs.2.2.2.1 hf; omega
  · obtain ⟨h5, h6, _⟩ := h.none (by omega)
    subst h5 h6
    simp at h2
    omega
  · have := (h.some (by omega)).2
    omega
theorem fsL_zip {F L : List Int} {n : Nat} (hF : F.length = n) (hL : L.length = n) : fsL (F.zip L) = F := by
  unfold fsL; exact List.map_fst_zip (by omega)
theorem lsL_zip {F L : List Int} {n : Nat} (hF : F.length = n) (hL : L.length = n) : lsL (F.zip L) = L := by
  unfold lsL; exact List.map_snd_zip (by omega)
end Go.Proofs.Qxb6618191a
