/-
  pushCover (function 25).
-/
import Derived.Test.Qxb6618191aSame
namespace Go.Proofs.Qxb6618191a
open Go.RowKit

/-- pushCover, plainly. -/
def pushC (out : List (Int × Int)) (f l : Int) : List (Int × Int) :=
  match out.reverse with
  | [] => [(f, l)]
  | (a, b) :: r => if f ≤ b + 1 then r.reverse ++ [(a, if b < l then l else b)] else out ++ [(f, l)]
theorem pushC_nil (f l : Int) : pushC [] f l = [(f, l)] := rfl
theorem pushC_snoc (I : List (Int × Int)) (a b f l : Int) : pushC (I ++ [(a, b)]) f l = if f ≤ b + 1 then I ++ [(a, if b < l then l else b)] else I ++ [(a, b)] ++ [(f, l)] := by
  simp [pushC]

/-- A list that is not empty has a last run. -/
theorem snoc_of {rs : List (Int × Int)} {n : Nat} (hn : rs.length = n) (h0 : 0 < n) : ∃ I a b, rs = I ++ [(a, b)] ∧ I.length = n - 1 := by
  have hne : rs ≠ [] := by intro h; subst h; simp at hn; omega
  refine ⟨rs.dropLast, (rs.getLast hne).1, (rs.getLast hne).2, (List.dropLast_concat_getLast hne).symm, by simp [hn]⟩
theorem fs_snoc {I : List (Int × Int)} {a b : Int} {k : Nat} (h : I.length = k) : fs (I ++ [(a, b)]) k = a := by
  subst h; simp [fs]
theorem ls_snoc {I : List (Int × Int)} {a b : Int} {k : Nat} (h : I.length = k) : ls (I ++ [(a, b)]) k = b := by
  subst h; simp [ls]

theorem owns_setLast {w : World} {B e g cap k : Nat} {I : List (Int × Int)} {a b l : Int} (h : w.ownsRow B e 2 (.slice (some ⟨g, 0, none⟩) (k + 1) cap) (k + 1) (rcells (I ++ [(a, b)]))) (hk : I.length = k) :
    (w.setCell ⟨g, k * 2 + 1, none⟩ (.int .i64 l)).ownsRow B e 2 (.slice (some ⟨g, 0, none⟩) (k + 1) cap) (k + 1) (rcells (I ++ [(a, l)])) := by
  rcases h.2 with ⟨h1, _⟩ | ⟨g', cap', cur, hv, hg, hh, h4, h5, h6, h7⟩
  · injection h1 with h1; cases h1
  injection hv with hv1 _ hv3
  injection hv1 with hv1
  injection hv1 with hv1
  subst hv1 hv3
  refine ⟨by rw [rcells_length]; simp [hk], .inr ⟨g, cap, _, rfl, hg, heap_set_at hh _ _, h4, h5, by simpa using h6, ?_⟩⟩
  rw [Array.toList_setIfInBounds, List.take_set, h7, rcells_append, rcells_append, List.set_append_right _ _ (by rw [rcells_length]; omega), rcells_length, hk]
  rw [show k * 2 + 1 - k * 2 = 1 by omega]
  rfl

set_option maxHeartbeats 1000000 in
theorem push_any (a : Option Addr) (n cap B : Nat) (f l : Int) (rs : List (Int × Int)) (w : World) (hn : rs.length = n) (hn6 : n ≤ 1000000) (hB : B ≤ w.heap.size) (ho : w.ownsRow B 35 2 (.slice a n cap) n (rcells rs))
    (hlim : 0 < n → -9223372036854775808 ≤ ls rs (n - 1) ∧ ls rs (n - 1) ≤ 9223372036854775806) :
    Calls Try.prog 25 #[.slice a n cap, .int .i64 f, .int .i64 l] w fun e w' => ∃ a' m cap', e = .returned (.slice a' m cap') ∧ m = (pushC rs f l).length ∧
      w'.ownsRow B 35 2 (.slice a' m cap') m (rcells (pushC rs f l)) ∧ Below B w w' := by
  have HO : Hid (w.ownsRow B 35 2 (.slice a n cap) n (rcells rs)) := ho
  have HN : Hid (rs.length = n) := hn
  have HOd : Hid ((w.alloc (.cells #[.int .i64 f, .int .i64 l] 35)).ownsRow B 35 2 (.slice a n cap) n (rcells rs)) := ho.alloc _
  have HNb : Hid ((w.alloc (.cells #[.int .i64 f, .int .i64 l] 35)).heap[w.heap.size]? = some (.cells #[.int .i64 f, .int .i64 l] 35 (0, 0))) := heap_alloc_new _ _
  have HBz : Hid (B ≤ (w.alloc (.cells #[.int .i64 f, .int .i64 l] 35)).heap.size) := by show B ≤ (w.alloc _).heap.size; simp; omega
  have HBA : Hid (Below B w (w.alloc (.cells #[.int .i64 f, .int .i64 l] 35))) := (Below.refl _ _).alloc hB _
  clear hn ho
  by_cases h0 : 0 < n
  · obtain ⟨g, rfl, hBg, hgs, hc, hfz⟩ := owns_at HO.out h0
    obtain ⟨I, x, y, hI, hIl⟩ := snoc_of HN.out h0
    obtain ⟨c0, c1⟩ := run_cell HN.out hc (show n - 1 < n by omega)
    have hl2 := hlim h0
    rw [hI, ls_snoc hIl] at c1 hl2
    have z1 := hfz ((n - 1) * 2 + 1)
    have HI : Hid (rs = I ++ [(x, y)] ∧ I.length = n - 1) := ⟨hI, hIl⟩
    obtain ⟨k, hk⟩ : ∃ k, n = k + 1 := ⟨n - 1, by omega⟩
    subst hk
    rw [show k + 1 - 1 = k by omega] at c1 z1 HI
    have b0 : (0 : Int) < ((k + 1 : Nat) : Int) := by omega
    have b1 : (0 : Int) ≤ ((k + 1 : Nat) : Int) - 1 := by omega
    have b2 : ((k + 1 : Nat) : Int) - 1 = (k : Int) := by omega
    have b3 : (k : Int) < ((k + 1 : Nat) : Int) := by omega
    obtain ⟨hl3, hl4⟩ := hl2
    clear hc hfz c0 hlim hI hIl
    by_cases hf : f ≤ y + 1
    · by_cases hy : y < l
      · go_enter Try.func25, Try.ntmps25
        go_wp2
        go_ret
        have hp : pushC rs f l = I ++ [(x, l)] := by rw [HI.out.1, pushC_snoc, if_pos hf, if_pos hy]
        rw [hp]
        have ho := HO.out
        rw [HI.out.1] at ho
        exact ⟨_, _, _, rfl, by simp [HI.out.2], owns_setLast ho HI.out.2, (Below.refl B w).setCell (p := ⟨g, k * 2 + 1, none⟩) hBg _⟩
      · go_enter Try.func25, Try.ntmps25
        go_wp2
        go_ret
        have hp : pushC rs f l = rs := by rw [HI.out.1, pushC_snoc, if_pos hf, if_neg (show ¬ y < l by omega)]
        rw [hp]
        exact ⟨_, _, _, rfl, HN.out.symm, HO.out, Below.refl _ _⟩
    · have hp : pushC rs f l = rs ++ [(f, l)] := by rw [HI.out.1, pushC_snoc, if_neg hf]
      have HP : Hid (pushC rs f l = rs ++ [(f, l)]) := hp
      have hf2 : y + 1 < f := by omega
      clear hp
      go_enter Try.func25, Try.ntmps25
      go_wp2_with (at_builtin; refine wpList_append_run _ (by rfl) _ _ ty25 (by rfl) B (.slice (some ⟨g, 0, none⟩) (k + 1) cap) (k + 1) rs (by rfl) w.heap.size f l (by rfl) HOd.out HNb.out (by omega) HBz.out ?_)
      intro v2 w2 H2 G2
      obtain ⟨a3, c3, hv3⟩ := owns_slice H2.out
      subst hv3
      have HB3 : Hid (Below B w w2) := HBA.out.grown G2.out HBz.out (fun j hj => (HOd.out.lt j hj).1)
      clear G2
      go_wp2
      go_ret
      rw [HP.out]
      exact ⟨a3, _, c3, rfl, by simp [HN.out], H2.out, HB3.out⟩
  · obtain rfl : n = 0 := by omega
    have hp : rs = [] := List.eq_nil_of_length_eq_zero HN.out
    subst hp
    go_enter Try.func25, Try.ntmps25
    go_wp2_with (at_builtin; refine wpList_append_run _ (by rfl) _ _ ty25 (by rfl) B (.slice a 0 cap) 0 [] (by rfl) w.heap.size f l (by rfl) HOd.out HNb.out (by omega) HBz.out ?_)
    intro v2 w2 H2 G2
    obtain ⟨a3, c3, hv3⟩ := owns_slice H2.out
    subst hv3
    have HB3 : Hid (Below B w w2) := HBA.out.grown G2.out HBz.out (fun j hj => (HOd.out.lt j hj).1)
    clear G2
    go_wp2
    go_ret
    exact ⟨a3, _, c3, rfl, rfl, H2.out, HB3.out⟩
end Go.Proofs.Qxb6618191a
