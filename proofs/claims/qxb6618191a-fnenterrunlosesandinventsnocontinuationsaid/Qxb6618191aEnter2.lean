/-
  enterRun (function 24) where two runs or more are held.
-/
import Derived.Test.Qxb6618191aEnter1
namespace Go.Proofs.Qxb6618191a
open Go.RowKit

set_option maxRecDepth 8000 in
set_option maxHeartbeats 4000000 in
theorem enter_merge (B e r : Nat) (p span h of_ ol : Int) (a : Option Addr) (k cap hd : Nat) (I : List (Int × Int)) (x y : Int) (w : World) (H : EntY B w e r h of_ ol a (k + 1) cap hd (I ++ [(x, y)])) (hn : k + 1 ≤ 500000) (hh : 2 ≤ h) (hh2 : h ≤ 1000000) (hy0 : 0 ≤ y) (hyp : y ≤ p) (hp : p ≤ 4611686018427387903) (hps : p - y ≤ span) :
    Calls Try.prog 24 #[.pointer (some ⟨e, 0, none⟩), .int .i64 p, .int .i64 span] w fun z w' => EnterPost B e w h of_ ol true (I ++ [(x, p)]) hd z w' := by
  have HH : Hid (EntY B w e r h of_ ol a (k + 1) cap hd (I ++ [(x, y)])) := H
  have hIl : I.length = k := by have := H.len; simp at this; exact this
  obtain ⟨g, rfl, hBg, hgs, hc, hfz⟩ := owns_at H.own (by omega)
  obtain ⟨q0, q1⟩ := run_cell H.len hc (show k < k + 1 by omega)
  rw [ls_snoc hIl] at q1
  have z1 := hfz (k * 2 + 1)
  have HI : Hid (I.length = k) := hIl
  have c0 : w.cell? ⟨e, 0, none⟩ = some (.int .i64 h) := by rw [cell_of_heap H.he]; rfl
  have c3 : w.cell? ⟨e, 3, none⟩ = some (.pointer (some ⟨r, 0, none⟩)) := by rw [cell_of_heap H.he]; rfl
  have d0 : w.cell? ⟨r, 0, none⟩ = some (.slice (some ⟨g, 0, none⟩) (k + 1) cap) := by rw [cell_of_heap H.hr]; rfl
  have k0 : (h == 0) = false := beq_eq_false_iff_ne.2 (by omega)
  have k1 : (h == 1) = false := beq_eq_false_iff_ne.2 (by omega)
  have b0 : (0 : Int) < ((k + 1 : Nat) : Int) := by omega
  have b1 : (0 : Int) ≤ ((k + 1 : Nat) : Int) - 1 := by omega
  have b2 : ((k + 1 : Nat) : Int) - 1 = (k : Int) := by omega
  have b3 : (k : Int) < ((k + 1 : Nat) : Int) := by omega
  have hne := H.ne
  have hne2 := H.ne.symm
  have hBs : B ≤ w.heap.size := by have := H.be; have := lt_of_heap H.he; omega
  clear hc hfz q0 hIl
  clear H
  go_enter Try.func24, Try.ntmps24
  go_wp2
  go_quiet (fail)
  go_wp2
  refine bodyPost_ret (results_none rfl _ _ _) rfl ?_
  have h2 := EntY.setLast (HH.out.same (w' := w.drewN nq) rfl) HI.out p
  exact ⟨rfl, h2.ent, (below_draw (Below.refl B w) nq).setCell (p := ⟨g, k * 2 + 1, none⟩) hBg _⟩

set_option maxRecDepth 8000 in
set_option maxHeartbeats 4000000 in
theorem enter_more (B e r : Nat) (p span h of_ ol : Int) (a : Option Addr) (k cap hd : Nat) (I : List (Int × Int)) (x y : Int) (w : World) (H : EntY B w e r h of_ ol a (k + 1) cap hd (I ++ [(x, y)])) (hn : k + 1 ≤ 500000) (hh : 2 ≤ h) (hh2 : h ≤ 1000000) (hy0 : 0 ≤ y) (hyp : y ≤ p) (hp : p ≤ 4611686018427387903) (hps2 : span < p - y) :
    Calls Try.prog 24 #[.pointer (some ⟨e, 0, none⟩), .int .i64 p, .int .i64 span] w fun z w' => EnterPost B e w (h + 1) of_ ol true (I ++ [(x, y)] ++ [(p, p)]) hd z w' := by
  have HH : Hid (EntY B w e r h of_ ol a (k + 1) cap hd (I ++ [(x, y)])) := H
  have hIl : I.length = k := by have := H.len; simp at this; exact this
  obtain ⟨g, rfl, hBg, hgs, hc, hfz⟩ := owns_at H.own (by omega)
  obtain ⟨q0, q1⟩ := run_cell H.len hc (show k < k + 1 by omega)
  rw [ls_snoc hIl] at q1
  have z1 := hfz (k * 2 + 1)
  have HI : Hid (I.length = k) := hIl
  have c0 : w.cell? ⟨e, 0, none⟩ = some (.int .i64 h) := by rw [cell_of_heap H.he]; rfl
  have c3 : w.cell? ⟨e, 3, none⟩ = some (.pointer (some ⟨r, 0, none⟩)) := by rw [cell_of_heap H.he]; rfl
  have d0 : w.cell? ⟨r, 0, none⟩ = some (.slice (some ⟨g, 0, none⟩) (k + 1) cap) := by rw [cell_of_heap H.hr]; rfl
  have k0 : (h == 0) = false := beq_eq_false_iff_ne.2 (by omega)
  have k1 : (h == 1) = false := beq_eq_false_iff_ne.2 (by omega)
  have b0 : (0 : Int) < ((k + 1 : Nat) : Int) := by omega
  have b1 : (0 : Int) ≤ ((k + 1 : Nat) : Int) - 1 := by omega
  have b2 : ((k + 1 : Nat) : Int) - 1 = (k : Int) := by omega
  have b3 : (k : Int) < ((k + 1 : Nat) : Int) := by omega
  have hne := H.ne
  have hne2 := H.ne.symm
  have hBs : B ≤ w.heap.size := by have := H.be; have := lt_of_heap H.he; omega
  clear hc hfz q0 hIl
  go_enter Try.func24, Try.ntmps24
  go_wp2
  go_quiet (fail)
  go_upto_region 3 with fail
  have HY : Hid (EntY B (w.drewN nq) e r h of_ ol (some ⟨g, 0, none⟩) (k + 1) cap hd (I ++ [(x, y)])) := HH.out.same rfl
  have HBq : Hid (Below B w (w.drewN nq)) := below_draw (Below.refl B w) nq
  clear H HH c0 c3 d0 q1 z1
  have hBs1 : B ≤ (w.drewN nq).heap.size := hBs
  generalize w.drewN nq = w1 at *
  have d3 : w1.cell? ⟨e, 3, none⟩ = some (.pointer (some ⟨r, 0, none⟩)) := by rw [cell_of_heap HY.out.he]; rfl
  have d0 : w1.cell? ⟨r, 0, none⟩ = some (.slice (some ⟨g, 0, none⟩) (k + 1) cap) := by rw [cell_of_heap HY.out.hr]; rfl
  have d3' : (w1.alloc (.cells #[.int .i64 p, .int .i64 p] 45)).cell? ⟨e, 3, none⟩ = some (.pointer (some ⟨r, 0, none⟩)) := by rw [cell_of_heap ((heap_alloc_old w1 _ (lt_of_heap HY.out.he)).trans HY.out.he)]; rfl
  have d0' : (w1.alloc (.cells #[.int .i64 p, .int .i64 p] 45)).cell? ⟨r, 0, none⟩ = some (.slice (some ⟨g, 0, none⟩) (k + 1) cap) := by rw [cell_of_heap ((heap_alloc_old w1 _ (lt_of_heap HY.out.hr)).trans HY.out.hr)]; rfl
  have HW : Hid (EntY B (w1.alloc (.cells #[.int .i64 p, .int .i64 p] 45)).drew e r h of_ ol (some ⟨g, 0, none⟩) (k + 1) cap hd (I ++ [(x, y)])) := HY.out.alloc _
  have HNb : Hid ((w1.alloc (.cells #[.int .i64 p, .int .i64 p] 45)).drew.heap[w1.heap.size]? = some (.cells #[.int .i64 p, .int .i64 p] 45 (0, 0))) := heap_alloc_new w1 _
  go_region_law ((refine step_app (by rfl) _ _ (by rfl) HW.out hn p w1.heap.size HNb.out (by rfl) (by rfl) ?_; intro a' cap' w2 HP e0 e3 r0 g0 g1))
  all_goals
    have HF := app_fin HY.out.be HY.out.br HP.out.he HP.out.hr HP.out.own (h + 1)
    have HB : Below B w w2 := ((HBq.out.alloc hBs1 _).drew).trans HP.out.below
    go_wp2
    go_end0
    exact ⟨rfl, HF.1, HB.trans HF.2⟩
end Go.Proofs.Qxb6618191a
