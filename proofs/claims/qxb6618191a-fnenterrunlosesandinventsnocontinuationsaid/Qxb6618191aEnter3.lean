/-
  enterRun over all the shapes of entries; ZZEnterRun (function 18); entriesShape with a wider bound.
-/
import Derived.Test.Qxb6618191aEnter2
import Derived.Test.Qxb6618191aFacts4
namespace Go.Proofs.Qxb6618191a
open Go.RowKit

set_option maxHeartbeats 1000000 in
theorem shape_wide (held : Int) (hl : Bool) (nl head : Int) (w : World) (h0 : 0 ≤ nl) (h1 : nl ≤ 1000000) (h2 : held ≤ 9223372036854775807) :
    Calls Try.prog 13 #[.int .i64 held, .bool hl, .int .i64 nl, .int .i64 head] w fun e w' => Says (shapeP held hl nl head) w e w' := by
  cases hl
  all_goals
    go_enter Try.func13, Try.ntmps13
    go_wp2
    all_goals
      go_ret
      refine ⟨_, rfl, ?_, 0, rfl⟩
      simp at *
      simp [shapeP]
      omega

set_option maxHeartbeats 1000000 in
theorem zzenter {R : World → Prop} (e : Nat) (pos span : Int) (w : World) (h : Calls Try.prog 24 #[.pointer (some ⟨e, 0, none⟩), .int .i64 pos, .int .i64 span] w fun x w' => x = .returned (.tuple #[]) ∧ R w') :
    Calls Try.prog 18 #[.pointer (some ⟨e, 0, none⟩), .int .i64 pos, .int .i64 span] w fun x w' => x = .returned (.tuple #[]) ∧ R w' := by
  have H : Hid (Calls Try.prog 24 #[.pointer (some ⟨e, 0, none⟩), .int .i64 pos, .int .i64 span] w fun x w' => x = .returned (.tuple #[]) ∧ R w') := h
  clear h
  go_enter Try.func18, Try.ntmps18
  go_wp2_with fail
  refine (H.out).mono ?_
  rintro x w2 ⟨rfl, hr⟩
  go_wp2
  go_end0
  exact ⟨rfl, hr⟩

/-- The entries hold the runs A, behind the dropped runs 'pre' of the later list. -/
def EntS (B : Nat) (w : World) (e : Nat) (hl : Bool) (pre A : List (Int × Int)) : Prop :=
  ∃ of_ ol, Ent B w e (A.length : Int) of_ ol hl (pre ++ A.tail) pre.length ∧ ∀ x X, A = x :: X → x = (of_, ol)

theorem enter_any (B e : Nat) (p span : Int) (hl : Bool) (pre A : List (Int × Int)) (w : World) (H : EntS B w e hl pre A) (hlen : pre.length + A.length ≤ 400000)
    (hlast : 2 ≤ A.length → 0 ≤ ls A (A.length - 1) ∧ ls A (A.length - 1) ≤ p) (hp : p ≤ 4611686018427387903) :
    Calls Try.prog 24 #[.pointer (some ⟨e, 0, none⟩), .int .i64 p, .int .i64 span] w fun x w' => x = .returned (.tuple #[]) ∧
      (EntS B w' e (hl || decide (2 ≤ (pushE span p A).length)) pre (pushE span p A) ∧ Below B w w') := by
  obtain ⟨of_, ol, hE, hx⟩ := H
  rcases shape_of A with rfl | ⟨x, rfl⟩ | ⟨x, I, a, b, rfl⟩
  · rw [pushE_nil]
    rw [show (hl || decide (2 ≤ [(p, p)].length)) = hl by simp]
    cases hl
    · obtain ⟨hN, hr, hd⟩ := EntN.of hE
      have hpre : pre = [] := List.eq_nil_of_length_eq_zero hd
      subst hpre
      refine (enter_zeroN B e p span of_ ol w hN).mono ?_
      rintro z w' ⟨rfl, h1, h2⟩
      exact ⟨rfl, ⟨p, p, h1, fun y Y hy => by injection hy with hy _; exact hy.symm⟩, h2⟩
    · obtain ⟨r, a, cap, hY⟩ := EntY.of hE
      refine (enter_zeroY B e r p span of_ ol a _ cap _ _ w hY).mono ?_
      rintro z w' ⟨rfl, h1, h2⟩
      exact ⟨rfl, ⟨p, p, h1, fun y Y hy => by injection hy with hy _; exact hy.symm⟩, h2⟩
  · rw [pushE_one]
    rw [show (hl || decide (2 ≤ ([x] ++ [(p, p)]).length)) = true by simp]
    have hxx := hx x [] rfl
    subst hxx
    cases hl
    · obtain ⟨hN, hr, hd⟩ := EntN.of hE
      have hpre : pre = [] := List.eq_nil_of_length_eq_zero hd
      subst hpre
      refine (enter_oneN B e p span of_ ol w hN).mono ?_
      rintro z w' ⟨rfl, h1, h2⟩
      exact ⟨rfl, ⟨of_, ol, h1, fun y Y hy => by injection hy with hy _; exact hy.symm⟩, h2⟩
    · obtain ⟨r, a, cap, hY⟩ := EntY.of hE
      refine (enter_oneY B e r p span of_ ol a _ cap _ _ w hY (by simp at hlen ⊢; omega)).mono ?_
      rintro z w' ⟨rfl, h1, h2⟩
      refine ⟨rfl, ⟨of_, ol, ?_, fun y Y hy => by injection hy with hy _; exact hy.symm⟩, h2⟩
      have e1 : pre ++ [(of_, ol)].tail ++ [(p, p)] = pre ++ ([(of_, ol)] ++ [(p, p)]).tail := by simp
      rw [e1] at h1
      exact h1
  · have hxx := hx x (I ++ [(a, b)]) rfl
    subst hxx
    have hl2 : ((of_, ol) :: I ++ [(a, b)]).length = I.length + 2 := by simp
    have hla : ls ((of_, ol) :: I ++ [(a, b)]) (I.length + 1) = b := ls_snoc (by simp)
    have hlb := hlast (by omega)
    rw [hl2, show I.length + 2 - 1 = I.length + 1 by omega, hla] at hlb
    rw [hl2] at hE hlen
    have e0 : pre ++ ((of_, ol) :: I ++ [(a, b)]).tail = (pre ++ I) ++ [(a, b)] := by simp
    rw [e0] at hE
    cases hl
    · obtain ⟨hN, hr, hd⟩ := EntN.of hE
      exact absurd hr (by simp)
    · rw [Bool.true_or]
      obtain ⟨r, ad, cap, hY⟩ := EntY.of hE
      rw [show (pre ++ I ++ [(a, b)]).length = (pre ++ I).length + 1 by simp; omega] at hY
      have hk : (pre ++ I).length + 1 ≤ 500000 := by simp; omega
      rw [pushE_snoc]
      by_cases hs : p - b ≤ span
      · rw [if_pos hs]
        refine (enter_merge B e r p span _ of_ ol ad _ cap _ (pre ++ I) a b w hY hk (by omega) (by omega) hlb.1 hlb.2 hp hs).mono ?_
        rintro z w' ⟨rfl, h1, h2⟩
        refine ⟨rfl, ⟨of_, ol, ?_, fun y Y hy => by injection hy with hy _; exact hy.symm⟩, h2⟩
        have e1 : pre ++ I ++ [(a, p)] = pre ++ ((of_, ol) :: I ++ [(a, p)]).tail := by simp
        rw [e1] at h1
        rw [show ((of_, ol) :: I ++ [(a, p)]).length = I.length + 2 by simp]
        exact h1
      · rw [if_neg hs]
        refine (enter_more B e r p span _ of_ ol ad _ cap _ (pre ++ I) a b w hY hk (by omega) (by omega) hlb.1 hlb.2 hp (by omega)).mono ?_
        rintro z w' ⟨rfl, h1, h2⟩
        refine ⟨rfl, ⟨of_, ol, ?_, fun y Y hy => by injection hy with hy _; exact hy.symm⟩, h2⟩
        have e1 : pre ++ I ++ [(a, b)] ++ [(p, p)] = pre ++ ((of_, ol) :: I ++ [(a, b)] ++ [(p, p)]).tail := by simp
        rw [e1] at h1
        rw [show ((of_, ol) :: I ++ [(a, b)] ++ [(p, p)]).length = I.length + 2 + 1 by simp]
        exact h1

/-- The entries as they stand ahead of the first. -/
theorem entS_start {B : Nat} {w : World} {e : Nat} {held of_ ol : Int} {hl : Bool} {F L : List Int} {hd n : Nat} (hF : F.length = n) (hL : L.length = n) (hs : shapeP held hl n hd) (h : Ent B w e held of_ ol hl (F.zip L) hd) : EntS B w e hl ((F.zip L).take hd) (absR held of_ ol F L hd) := by
  refine ⟨of_, ol, ?_, ?_⟩
  · rw [absR_held hF hL hs, pre_tail hF hL hs, pre_len hF hL (by have := hs.2.2.1; omega)]
    exact h
  · intro x X hx
    unfold absR at hx
    split at hx
    · cases hx
    · injection hx with hx _
      exact hx.symm

/-- One position entered, the j-th. -/
theorem enter_nth (B e : Nat) (span : Int) (hl : Bool) (pre A : List (Int × Int)) (E : List Int) (j : Nat) (w : World) (f : Facts span A E) (hj : j < E.length) (hlen : pre.length + A.length + E.length ≤ 400000) (h : EntS B w e (hl || decide (2 ≤ (enterL span A (E.take j)).length)) pre (enterL span A (E.take j))) :
    Calls Try.prog 18 #[.pointer (some ⟨e, 0, none⟩), .int .i64 (E[j]?.getD 0), .int .i64 span] w fun x w' => x = .returned (.tuple #[]) ∧
      (EntS B w' e (hl || decide (2 ≤ (enterL span A (E.take (j + 1))).length)) pre (enterL span A (E.take (j + 1))) ∧ Below B w w') := by
  have hx : E.take (j + 1) = E.take j ++ [E[j]?.getD 0] := by rw [List.take_succ_eq_append_getElem hj, List.getElem?_eq_getElem hj]; rfl
  have h1 := enterL_len span (E.take j) A
  rw [List.length_take] at h1
  have h2 := (posX_at f.posE rfl hj).2
  have h3 := enter_any B e (E[j]?.getD 0) span _ pre (enterL span A (E.take j)) w h (by omega) (f.step j hj) h2
  rw [← enterL_snoc, ← hx] at h3
  have h4 : (hl || decide (2 ≤ (enterL span A (E.take j)).length) || decide (2 ≤ (enterL span A (E.take (j + 1))).length)) = (hl || decide (2 ≤ (enterL span A (E.take (j + 1))).length)) := by
    have h5 := (pushE_len span (E[j]?.getD 0) (enterL span A (E.take j))).1
    rw [← enterL_snoc, ← hx] at h5
    by_cases h6 : 2 ≤ (enterL span A (E.take j)).length
    · rw [decide_eq_true h6, decide_eq_true (show 2 ≤ (enterL span A (E.take (j + 1))).length by omega)]; simp
    · rw [decide_eq_false h6, Bool.or_false]
  rw [h4] at h3
  exact zzenter e _ span w h3

/-- What stands behind all of them. -/
theorem entS_end {B : Nat} {w : World} {e : Nat} {hl : Bool} {pre G : List (Int × Int)} {hd : Nat} (hp : pre.length = hd) (hg : 1 ≤ G.length) (h : EntS B w e hl pre G) :
    ∃ of_ ol, Ent B w e (G.length : Int) of_ ol hl (pre ++ G.tail) hd ∧ absR (G.length : Int) of_ ol (fsL (pre ++ G.tail)) (lsL (pre ++ G.tail)) hd = G ∧ (pre ++ G.tail).length = hd + G.length - 1 := by
  obtain ⟨of_, ol, h1, h2⟩ := h
  rw [hp] at h1
  refine ⟨of_, ol, h1, ?_, ?_⟩
  · rw [absR, if_neg (by omega), zip_fl, ← hp, List.drop_left]
    cases G with
    | nil => simp at hg
    | cons x X => rw [h2 x X rfl]; rfl
  · rw [List.length_append, List.length_tail]; omega
end Go.Proofs.Qxb6618191a
