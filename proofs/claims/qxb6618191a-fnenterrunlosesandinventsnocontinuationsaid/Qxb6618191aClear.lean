/-
  clear (function 26).
-/
import Derived.Test.Qxb6618191aNew
namespace Go.Proofs.Qxb6618191a
open Go.RowKit

/-- The entries with a later list: what lies where. -/
structure EntY (B : Nat) (w : World) (e r : Nat) (held of_ ol : Int) (a : Option Addr) (n cap hd : Nat) (rs : List (Int × Int)) : Prop where
  be : B ≤ e
  br : B ≤ r
  ne : e ≠ r
  he : w.heap[e]? = some (.cells #[.int .i64 held, .int .i64 of_, .int .i64 ol, .pointer (some ⟨r, 0, none⟩)] 48 (0, 0))
  hr : w.heap[r]? = some (.cells #[.slice a n cap, .int .i64 hd] 51 (0, 0))
  own : w.ownsRow B 45 2 (.slice a n cap) n (rcells rs)

theorem ne_of_types {w : World} {e r : Nat} {C D : Array Value} {s t : TypeId} {x y : Nat × Nat} (h1 : w.heap[e]? = some (.cells C s x)) (h2 : w.heap[r]? = some (.cells D t y)) (h : s ≠ t) : e ≠ r := by
  intro he
  subst he
  rw [h1] at h2
  injection h2 with h2
  injection h2 with _ h2 _
  exact h h2

theorem EntY.of {B : Nat} {w : World} {e : Nat} {held of_ ol : Int} {rs : List (Int × Int)} {hd : Nat} (h : Ent B w e held of_ ol true rs hd) : ∃ r a cap, EntY B w e r held of_ ol a rs.length cap hd rs := by
  obtain ⟨hBe, ⟨h1, _⟩ | ⟨_, r, a, cap, hBr, he, hr, ho⟩⟩ := h
  · cases h1
  · exact ⟨r, a, cap, hBe, hBr, ne_of_types he hr (by decide), he, hr, ho⟩

theorem EntY.ent {B : Nat} {w : World} {e r : Nat} {held of_ ol : Int} {a : Option Addr} {n cap hd : Nat} {rs : List (Int × Int)} (h : EntY B w e r held of_ ol a n cap hd rs) : Ent B w e held of_ ol true rs hd := by
  have hn : rs.length = n := by have := h.own.1; rw [rcells_length] at this; omega
  have h1 := h.hr
  have h2 := h.own
  rw [← hn] at h1 h2
  exact ⟨h.be, .inr ⟨rfl, r, a, cap, h.br, h.he, h1, h2⟩⟩

theorem EntY.len {B : Nat} {w : World} {e r : Nat} {held of_ ol : Int} {a : Option Addr} {n cap hd : Nat} {rs : List (Int × Int)} (h : EntY B w e r held of_ ol a n cap hd rs) : rs.length = n := by
  have := h.own.1; rw [rcells_length] at this; omega

theorem owns_other {w : World} {B : Nat} {v : Value} {n b j : Nat} {xs : List Value} {C : Array Value} {t : TypeId} {x : Nat × Nat} (h : w.ownsRow B 45 2 v n xs) (hb : w.heap[b]? = some (.cells C t x)) (ht : t ≠ 45) (u : Value) : (w.setCell ⟨b, j, none⟩ u).ownsRow B 45 2 v n xs :=
  owns_keep h (fun k D hD => by rw [heap_set_other _ _ _ _ (by exact ne_of_types hD hb (Ne.symm ht))]; exact hD)

/-- A store into the entries. -/
theorem EntY.setE {B : Nat} {w : World} {e r : Nat} {held of_ ol : Int} {a : Option Addr} {n cap hd : Nat} {rs : List (Int × Int)} (h : EntY B w e r held of_ ol a n cap hd rs) :
    (∀ x : Int, EntY B (w.setCell ⟨e, 0, none⟩ (.int .i64 x)) e r x of_ ol a n cap hd rs) ∧ (∀ x : Int, EntY B (w.setCell ⟨e, 1, none⟩ (.int .i64 x)) e r held x ol a n cap hd rs) ∧ (∀ x : Int, EntY B (w.setCell ⟨e, 2, none⟩ (.int .i64 x)) e r held of_ x a n cap hd rs) := by
  refine ⟨fun x => ⟨h.be, h.br, h.ne, ?_, ?_, owns_other h.own h.he (by decide) _⟩, fun x => ⟨h.be, h.br, h.ne, ?_, ?_, owns_other h.own h.he (by decide) _⟩, fun x => ⟨h.be, h.br, h.ne, ?_, ?_, owns_other h.own h.he (by decide) _⟩⟩
  all_goals first
    | (rw [heap_set_at h.he]; rfl)
    | (rw [heap_set_other _ _ _ _ (by exact h.ne.symm)]; exact h.hr)

/-- A store of the head. -/
theorem EntY.setH {B : Nat} {w : World} {e r : Nat} {held of_ ol : Int} {a : Option Addr} {n cap hd : Nat} {rs : List (Int × Int)} (h : EntY B w e r held of_ ol a n cap hd rs) (x : Nat) :
    EntY B (w.setCell ⟨r, 1, none⟩ (.int .i64 x)) e r held of_ ol a n cap x rs :=
  ⟨h.be, h.br, h.ne, by rw [heap_set_other _ _ _ _ (by exact h.ne)]; exact h.he, by rw [heap_set_at h.hr]; rfl, owns_other h.own h.hr (by decide) _⟩

/-- A shorter list over the same cells. -/
theorem EntY.setL {B : Nat} {w : World} {e r : Nat} {held of_ ol : Int} {a : Option Addr} {n cap hd : Nat} {rs : List (Int × Int)} (h : EntY B w e r held of_ ol a n cap hd rs) (m : Nat) (hm : m ≤ n) :
    EntY B (w.setCell ⟨r, 0, none⟩ (.slice a m cap)) e r held of_ ol a m cap hd (rs.take m) := by
  refine ⟨h.be, h.br, h.ne, by rw [heap_set_other _ _ _ _ (by exact h.ne)]; exact h.he, by rw [heap_set_at h.hr]; rfl, ?_⟩
  refine owns_other (t := 51) ?_ h.hr (by decide) _
  have hl := h.len
  have hcells : rcells (rs.take m) = (rcells rs).take (m * 2) := by
    have h3 : rcells rs = rcells (rs.take m) ++ rcells (rs.drop m) := by rw [← rcells_append, List.take_append_drop]
    rw [h3, List.take_left' (by rw [rcells_length, List.length_take]; omega)]
  refine ⟨by rw [rcells_length, List.length_take]; omega, ?_⟩
  rcases h.own.2 with ⟨h1, h2⟩ | ⟨g, cap', cur, hv, hg, hh, h4, h5, h6, h7⟩
  · injection h1 with h1 _ h3
    subst h1 h3
    exact .inl ⟨by rw [show m = 0 by omega], by omega⟩
  · injection hv with hv1 _ hv3
    subst hv1 hv3
    refine .inr ⟨g, cap, cur, rfl, hg, hh, by omega, h5, h6, ?_⟩
    rw [hcells, ← h7, List.take_take, Nat.min_eq_left (by omega)]

theorem ent_drew {B : Nat} {w : World} {e : Nat} {held of_ ol : Int} {hl : Bool} {rs : List (Int × Int)} {hd : Nat} (h : Ent B w e held of_ ol hl rs hd) : Ent B w.drew e held of_ ol hl rs hd := h
theorem below_clear {B : Nat} {w : World} {e r : Nat} {held of_ ol : Int} {a : Option Addr} {n cap hd : Nat} {rs : List (Int × Int)} (h : EntY B w e r held of_ ol a n cap hd rs) {u v x : Value} :
    Below B w (((w.setCell ⟨e, 0, none⟩ u).setCell ⟨r, 0, none⟩ v).setCell ⟨r, 1, none⟩ x).drew :=
  (((((Below.refl B w).setCell (p := ⟨e, 0, none⟩) h.be _).setCell (p := ⟨r, 0, none⟩) h.br _).setCell (p := ⟨r, 1, none⟩) h.br _)).drew

/-- The entries without a later list. -/
def EntN (B : Nat) (w : World) (e : Nat) (held of_ ol : Int) : Prop := B ≤ e ∧ w.heap[e]? = some (.cells #[.int .i64 held, .int .i64 of_, .int .i64 ol, .pointer none] 48 (0, 0))
theorem EntN.ent {B : Nat} {w : World} {e : Nat} {held of_ ol : Int} (h : EntN B w e held of_ ol) : Ent B w e held of_ ol false [] 0 := ⟨h.1, .inl ⟨rfl, rfl, rfl, h.2⟩⟩
theorem EntN.of {B : Nat} {w : World} {e : Nat} {held of_ ol : Int} {rs : List (Int × Int)} {hd : Nat} (h : Ent B w e held of_ ol false rs hd) : EntN B w e held of_ ol ∧ rs = [] ∧ hd = 0 := by
  obtain ⟨hBe, ⟨_, h1, h2, h3⟩ | ⟨h1, _⟩⟩ := h
  · exact ⟨⟨hBe, h3⟩, h1, h2⟩
  · cases h1
theorem EntN.set0 {B : Nat} {w : World} {e : Nat} {held of_ ol : Int} (h : EntN B w e held of_ ol) (x : Int) : EntN B (w.setCell ⟨e, 0, none⟩ (.int .i64 x)) e x of_ ol :=
  ⟨h.1, by rw [heap_set_at h.2]; rfl⟩

set_option maxHeartbeats 1000000 in
theorem clear_no (B e : Nat) (held of_ ol : Int) (w : World) (h : EntN B w e held of_ ol) :
    Calls Try.prog 26 #[.pointer (some ⟨e, 0, none⟩)] w fun x w' => x = .returned (.tuple #[]) ∧ Ent B w' e 0 of_ ol false [] 0 ∧ Below B w w' := by
  have H : Hid (EntN B w e held of_ ol) := h
  have c0 : w.cell? ⟨e, 0, none⟩ = some (.int .i64 held) := by rw [cell_of_heap h.2]; rfl
  have c3 : w.cell? ⟨e, 3, none⟩ = some (.pointer none) := by rw [cell_of_heap h.2]; rfl
  have f0 := frozen_of_heap h.2 0
  clear h
  go_enter Try.func26, Try.ntmps26
  go_wp2
  go_end0
  exact ⟨rfl, (H.out.set0 0).ent, (Below.refl B w).setCell (p := ⟨e, 0, none⟩) H.out.1 _⟩

set_option maxHeartbeats 1000000 in
theorem clear_yes (B e r : Nat) (held of_ ol : Int) (a : Option Addr) (n cap hd : Nat) (rs : List (Int × Int)) (w : World) (h : EntY B w e r held of_ ol a n cap hd rs) :
    Calls Try.prog 26 #[.pointer (some ⟨e, 0, none⟩)] w fun x w' => x = .returned (.tuple #[]) ∧ Ent B w' e 0 of_ ol true [] 0 ∧ Below B w w' := by
  have H : Hid (EntY B w e r held of_ ol a n cap hd rs) := h
  have c0 : w.cell? ⟨e, 0, none⟩ = some (.int .i64 held) := by rw [cell_of_heap h.he]; rfl
  have c3 : w.cell? ⟨e, 3, none⟩ = some (.pointer (some ⟨r, 0, none⟩)) := by rw [cell_of_heap h.he]; rfl
  have d0 : w.cell? ⟨r, 0, none⟩ = some (.slice a n cap) := by rw [cell_of_heap h.hr]; rfl
  have d1 : w.cell? ⟨r, 1, none⟩ = some (.int .i64 hd) := by rw [cell_of_heap h.hr]; rfl
  have f0 := frozen_of_heap h.he 0
  have f1 := frozen_of_heap h.hr 0
  have f2 := frozen_of_heap h.hr 1
  have hne := h.ne
  have hne2 := h.ne.symm
  have hcap : n ≤ cap := by
    rcases h.own.2 with ⟨h1, h2⟩ | ⟨g, cap', cur, hv, hg, hh, h4, _⟩
    · omega
    · injection hv with hv1 _ hv3; omega
  have hz : a = none ∨ ∃ g, a = some ⟨g, 0, none⟩ := by
    rcases h.own.2 with ⟨h1, h2⟩ | ⟨g, cap', cur, hv, hg, hh, h4, _⟩
    · injection h1 with h1; exact .inl h1
    · injection hv with hv1; exact .inr ⟨g, hv1⟩
  clear h
  rcases hz with rfl | ⟨g, rfl⟩
  · go_enter Try.func26, Try.ntmps26
    go_wp2
    go_region
    all_goals
      go_wp2
      go_end0
      exact ⟨rfl, ent_drew (((H.out.setE.1 0).setL 0 (Nat.zero_le _)).setH 0).ent, below_clear H.out⟩
  · go_enter Try.func26, Try.ntmps26
    go_wp2
    go_region
    all_goals
      go_wp2
      go_end0
      exact ⟨rfl, ent_drew (((H.out.setE.1 0).setL 0 (Nat.zero_le _)).setH 0).ent, below_clear H.out⟩
end Go.Proofs.Qxb6618191a
