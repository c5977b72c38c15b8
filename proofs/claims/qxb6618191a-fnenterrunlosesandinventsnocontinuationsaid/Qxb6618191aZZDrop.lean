/-
  drop without a later list; ZZDrop (function 10).
-/
import Derived.Test.Qxb6618191aDropParts
namespace Go.Proofs.Qxb6618191a
open Go.RowKit

set_option maxRecDepth 8000 in
set_option maxHeartbeats 4000000 in
theorem drop_no (B e : Nat) (pos of_ ol : Int) (A : List (Int × Int)) (w : World) (hE : EntN B w e 1 of_ ol) (hS : DropS A pos [] 0 0 1 of_ ol [] 0) :
    Calls Try.prog 23 #[.pointer (some ⟨e, 0, none⟩), .int .i64 pos] w fun x w' => x = .returned (.tuple #[]) ∧ (∃ h' of' ol' rs' hd', Ent B w' e h' of' ol' false rs' hd' ∧ DropD A pos [] 0 h' of' ol' rs' hd') ∧ Below B w w' := by
  have HE : Hid (EntN B w e 1 of_ ol) := hE
  have HS : Hid (DropS A pos [] 0 0 1 of_ ol [] 0) := hS
  have c0 : w.cell? ⟨e, 0, none⟩ = some (.int .i64 1) := by rw [cell_of_heap hE.2]; rfl
  have c2 : w.cell? ⟨e, 2, none⟩ = some (.int .i64 ol) := by rw [cell_of_heap hE.2]; rfl
  have f0 := frozen_of_heap hE.2 0
  clear hE hS
  go_enter Try.func23, Try.ntmps23
  go_wp2
  refine wp_loop_once ?_
  by_cases hp : ol < pos
  · go_wp2_with fail
    refine (clear_no B e _ of_ ol _ (HE.out.set0 _)).mono ?_
    rintro x w2 ⟨rfl, he2, hb2⟩
    go_wp2
    refine bodyPost_ret (results_none rfl _ _ _) rfl ?_
    exact ⟨rfl, ⟨_, _, _, _, _, he2, HS.out.done hp rfl⟩, ((Below.refl B w).setCell (p := ⟨e, 0, none⟩) HE.out.1 _).trans hb2⟩
  · have hp2 : pos ≤ ol := by omega
    go_wp2
    go_end0
    exact ⟨rfl, ⟨_, _, _, _, _, HE.out.ent, .inl ⟨0, HS.out, hp2⟩⟩, Below.refl _ _⟩

set_option maxHeartbeats 1000000 in
theorem zzdrop {R : World → Prop} (e : Nat) (pos : Int) (w : World) (h : Calls Try.prog 23 #[.pointer (some ⟨e, 0, none⟩), .int .i64 pos] w fun x w' => x = .returned (.tuple #[]) ∧ R w') :
    Calls Try.prog 10 #[.pointer (some ⟨e, 0, none⟩), .int .i64 pos] w fun x w' => x = .returned (.tuple #[]) ∧ R w' := by
  have H : Hid (Calls Try.prog 23 #[.pointer (some ⟨e, 0, none⟩), .int .i64 pos] w fun x w' => x = .returned (.tuple #[]) ∧ R w') := h
  clear h
  go_enter Try.func10, Try.ntmps10
  go_wp2_with fail
  refine (H.out).mono ?_
  rintro x w2 ⟨rfl, hr⟩
  go_wp2
  go_end0
  exact ⟨rfl, hr⟩
end Go.Proofs.Qxb6618191a
