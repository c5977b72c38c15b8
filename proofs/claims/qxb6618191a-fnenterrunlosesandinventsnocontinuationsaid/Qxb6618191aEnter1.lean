/-
  enterRun (function 24).
-/
import Derived.Test.Qxb6618191aDrop
import Derived.Test.Qxb6618191aPush
namespace Go.Proofs.Qxb6618191a
open Go.RowKit

/-- An append to the later list: the built-in, and what stands behind it. -/
theorem app_run {B : Nat} {w : World} {e r : Nat} {h of_ ol : Int} {a : Option Addr} {n cap hd : Nat} {rs : List (Int × Int)} (H : EntY B w e r h of_ ol a n cap hd rs) (hn : n ≤ 500000) (p : Int) (nb : Nat) (hnew : w.heap[nb]? = some (.cells #[.int .i64 p, .int .i64 p] 45 (0, 0))) (ty : TypeId) :
    ∃ a' cap' w2, (Builtin.append_ #[49, 49] ty #[.slice a n cap, .slice (some ⟨nb, 0, none⟩) 1 1]).run Try.prog w = .ok (.slice a' (n + 1) cap') w2 ∧
      w2.heap[e]? = some (.cells #[.int .i64 h, .int .i64 of_, .int .i64 ol, .pointer (some ⟨r, 0, none⟩)] 48 (0, 0)) ∧ w2.heap[r]? = some (.cells #[.slice a n cap, .int .i64 hd] 51 (0, 0)) ∧
      w2.ownsRow B 45 2 (.slice a' (n + 1) cap') (n + 1) (rcells (rs ++ [(p, p)])) ∧ Below B w w2 := by
  have hle := lt_of_heap H.he
  have hbe := H.be
  obtain ⟨i, hi, hzz⟩ := Option.map_eq_some_iff.1 ty49.info
  simp only [Prod.mk.injEq] at hzz
  obtain ⟨hz, hs2, hb2⟩ := hzz
  have ho := H.own
  have hsz : B ≤ w.heap.size := by omega
  obtain ⟨v', w2, hrun, ho2, hg, _⟩ := run_append_own (P := Try.prog) w B 49 ty 45 i _ 2 16 ty49.sl hi hz hs2 hb2 rfl (by omega) (.slice a n cap) n (rcells rs) ho ⟨nb, 0, none⟩ 1 1 [.int .i64 p, .int .i64 p] rfl
    (fun j u hj => by rw [add_lit, Nat.zero_add, cell_of_heap hnew]; simpa using hj) (fun u hu => by simp at hu; subst hu; rfl) (by unfold maxLen; omega) (by omega) hsz
  obtain ⟨a', cap', rfl⟩ := owns_slice ho2
  have hne : ∀ (b : Nat) (C : Array Value) (t : TypeId) (x : Nat × Nat), w.heap[b]? = some (.cells C t x) → t ≠ 45 → some b ≠ (Value.slice a n cap).ownBlock := by
    intro b C t x hb ht hcon
    rcases ho.2 with ⟨h1, _⟩ | ⟨g, cap2, cur, hv, _, hh, _⟩
    · injection h1 with h1; subst h1; simp [Value.ownBlock] at hcon
    · injection hv with hv1 _ _
      subst hv1
      simp only [Value.ownBlock, Option.some.injEq] at hcon
      subst hcon
      rw [hb] at hh
      injection hh with hh
      injection hh with _ hh _
      exact ht hh
  refine ⟨a', cap', w2, hrun, ?_, ?_, by rw [rcells_append]; exact ho2, (Below.refl B w).grown hg hsz (fun k hk => (ho.lt k hk).1)⟩
  · rw [hg.block e hle (hne _ _ _ _ H.he (by decide))]; exact H.he
  · rw [hg.block r (lt_of_heap H.hr) (hne _ _ _ _ H.hr (by decide))]; exact H.hr

structure AppP (B : Nat) (w w2 : World) (e r : Nat) (h of_ ol : Int) (a : Option Addr) (n cap hd : Nat) (a' : Option Addr) (cap' : Nat) (rs : List (Int × Int)) : Prop where
  he : w2.heap[e]? = some (.cells #[.int .i64 h, .int .i64 of_, .int .i64 ol, .pointer (some ⟨r, 0, none⟩)] 48 (0, 0))
  hr : w2.heap[r]? = some (.cells #[.slice a n cap, .int .i64 hd] 51 (0, 0))
  own : w2.ownsRow B 45 2 (.slice a' (n + 1) cap') (n + 1) (rcells rs)
  below : Below B w w2

theorem step_app {ops : Array Oper} {o : Oper} {act : Act} {w : World} {K : Act → World → Prop} {Q : Exit → Act → World → Prop} {E : Prop} (hgd : o.guard = none) (d s : Operand)
    (ho : o.op = .call { callee := .builtin .append, args := #[d, s], argTypes := #[49, 49] }) {B e r : Nat} {h of_ ol : Int} {a : Option Addr} {n cap hd : Nat} {rs : List (Int × Int)} (H : EntY B w e r h of_ ol a n cap hd rs) (hn : n ≤ 500000) (p : Int) (nb : Nat)
    (hnew : w.heap[nb]? = some (.cells #[.int .i64 p, .int .i64 p] 45 (0, 0))) (hde : act.eval d = .slice a n cap) (hse : act.eval s = .slice (some ⟨nb, 0, none⟩) 1 1)
    (hk : ∀ a' cap' w2, Hid (AppP B w w2 e r h of_ ol a n cap hd a' cap' (rs ++ [(p, p)])) → w2.cell? ⟨e, 0, none⟩ = some (.int .i64 h) → w2.cell? ⟨e, 3, none⟩ = some (.pointer (some ⟨r, 0, none⟩)) → w2.cell? ⟨r, 0, none⟩ = some (.slice a n cap) →
      w2.frozen? ⟨e, 0, none⟩ = false → w2.frozen? ⟨r, 0, none⟩ = false → K (act.put o.dst (.slice a' (n + 1) cap')) w2) :
    if Region.wanted o (yielded ops act.tmps) = true then Oper.wp Try.prog o act w K Q else E := by
  have hw : Region.wanted o (yielded ops act.tmps) = true := by simp [Region.wanted, hgd]
  rw [if_pos hw]
  obtain ⟨a', cap', w2, hrun, he2, hr2, ho2, hb2⟩ := app_run H hn p nb hnew o.type
  have hfin := hk a' cap' w2 ⟨he2, hr2, ho2, hb2⟩ (by rw [cell_of_heap he2]; rfl) (by rw [cell_of_heap he2]; rfl) (by rw [cell_of_heap hr2]; rfl) (frozen_of_heap he2 0) (frozen_of_heap hr2 0)
  unfold Oper.wp
  simp only [execOp, ho, resolve, invoke, builtin]
  simp [hde, hse, hrun, Result.andThen]
  exact hfin

theorem EntY.alloc {B : Nat} {w : World} {e r : Nat} {held of_ ol : Int} {a : Option Addr} {n cap hd : Nat} {rs : List (Int × Int)} (h : EntY B w e r held of_ ol a n cap hd rs) (o : Obj) : EntY B (w.alloc o).drew e r held of_ ol a n cap hd rs :=
  ⟨h.be, h.br, h.ne, (heap_alloc_old w _ (lt_of_heap h.he)).trans h.he, (heap_alloc_old w _ (lt_of_heap h.hr)).trans h.hr, h.own.alloc o⟩

/-- The entries behind such an append. -/
theorem app_fin {B : Nat} {w2 : World} {e r : Nat} {h of_ ol : Int} {a a' : Option Addr} {n cap cap' hd : Nat} {rs : List (Int × Int)} (hBe : B ≤ e) (hBr : B ≤ r)
    (he : w2.heap[e]? = some (.cells #[.int .i64 h, .int .i64 of_, .int .i64 ol, .pointer (some ⟨r, 0, none⟩)] 48 (0, 0))) (hr : w2.heap[r]? = some (.cells #[.slice a n cap, .int .i64 hd] 51 (0, 0)))
    (ho : w2.ownsRow B 45 2 (.slice a' (n + 1) cap') (n + 1) (rcells rs)) (x : Int) :
    Ent B ((w2.setCell ⟨r, 0, none⟩ (.slice a' (n + 1) cap')).setCell ⟨e, 0, none⟩ (.int .i64 x)) e x of_ ol true rs hd ∧ Below B w2 ((w2.setCell ⟨r, 0, none⟩ (.slice a' (n + 1) cap')).setCell ⟨e, 0, none⟩ (.int .i64 x)) := by
  have hne : e ≠ r := ne_of_types he hr (by decide)
  have h1 : EntY B (w2.setCell ⟨r, 0, none⟩ (.slice a' (n + 1) cap')) e r h of_ ol a' (n + 1) cap' hd rs :=
    ⟨hBe, hBr, hne, by rw [heap_set_other _ _ _ _ (by exact hne)]; exact he, by rw [heap_set_at hr]; rfl, owns_other ho hr (by decide) _⟩
  exact ⟨(h1.setE.1 x).ent, ((Below.refl B w2).setCell (p := ⟨r, 0, none⟩) hBr _).setCell (p := ⟨e, 0, none⟩) hBe _⟩

theorem EntN.newRuns {B : Nat} {w : World} {e : Nat} {held of_ ol : Int} (H : EntN B w e held of_ ol) :
    EntY B ((w.setCell ⟨e, 3, none⟩ (.pointer (some ⟨w.heap.size, 0, none⟩))).alloc (.cells #[.slice none 0 0, .int .i64 0] 51)) e w.heap.size held of_ ol none 0 0 0 [] := by
  have hle := lt_of_heap H.2
  have hz : (w.setCell ⟨e, 3, none⟩ (.pointer (some ⟨w.heap.size, 0, none⟩))).heap.size = w.heap.size := by simp
  have he := heap_set_at H.2 3 (.pointer (some ⟨w.heap.size, 0, none⟩))
  have hb := H.1
  generalize w.setCell ⟨e, 3, none⟩ (.pointer (some ⟨w.heap.size, 0, none⟩)) = w1 at *
  have hn := heap_alloc_new w1 (.cells #[.slice none 0 0, .int .i64 0] 51)
  rw [hz] at hn
  refine ⟨hb, by omega, by omega, ?_, hn, World.ownsRow_nil _ _ _ _⟩
  rw [heap_alloc_old _ _ (by omega), he]
  rfl

theorem EntY.setLast {B : Nat} {w : World} {e r g : Nat} {held of_ ol : Int} {k cap hd : Nat} {I : List (Int × Int)} {x y : Int} (h : EntY B w e r held of_ ol (some ⟨g, 0, none⟩) (k + 1) cap hd (I ++ [(x, y)])) (hk : I.length = k) (l : Int) :
    EntY B (w.setCell ⟨g, k * 2 + 1, none⟩ (.int .i64 l)) e r held of_ ol (some ⟨g, 0, none⟩) (k + 1) cap hd (I ++ [(x, l)]) := by
  have hg : ∃ C, w.heap[g]? = some (.cells C 45 (0, 0)) := by
    rcases h.own.2 with ⟨h1, _⟩ | ⟨g', cap', cur, hv, _, hh, _⟩
    · injection h1 with h1; cases h1
    · injection hv with hv1
      injection hv1 with hv1
      injection hv1 with hv1
      subst hv1
      exact ⟨cur, hh⟩
  obtain ⟨C, hC⟩ := hg
  refine ⟨h.be, h.br, h.ne, ?_, ?_, owns_setLast h.own hk⟩
  · rw [heap_set_other _ _ _ _ (by exact ne_of_types h.he hC (by decide))]; exact h.he
  · rw [heap_set_other _ _ _ _ (by exact ne_of_types h.hr hC (by decide))]; exact h.hr

def EnterPost (B e : Nat) (w : World) (h of_ ol : Int) (hl : Bool) (rs : List (Int × Int)) (hd : Nat) (x : Ending) (w' : World) : Prop :=
  x = .returned (.tuple #[]) ∧ Ent B w' e h of_ ol hl rs hd ∧ Below B w w'

set_option maxRecDepth 8000 in
set_option maxHeartbeats 4000000 in
theorem enter_zeroY (B e r : Nat) (p span of_ ol : Int) (a : Option Addr) (n cap hd : Nat) (rs : List (Int × Int)) (w : World) (H : EntY B w e r 0 of_ ol a n cap hd rs) :
    Calls Try.prog 24 #[.pointer (some ⟨e, 0, none⟩), .int .i64 p, .int .i64 span] w fun x w' => EnterPost B e w 1 p p true rs hd x w' := by
  have HH : Hid (EntY B w e r 0 of_ ol a n cap hd rs) := H
  have c0 : w.cell? ⟨e, 0, none⟩ = some (.int .i64 0) := by rw [cell_of_heap H.he]; rfl
  have c1 : w.cell? ⟨e, 1, none⟩ = some (.int .i64 of_) := by rw [cell_of_heap H.he]; rfl
  have c2 : w.cell? ⟨e, 2, none⟩ = some (.int .i64 ol) := by rw [cell_of_heap H.he]; rfl
  have f0 := frozen_of_heap H.he 0
  have f1 := frozen_of_heap H.he 1
  have f2 := frozen_of_heap H.he 2
  clear H
  go_enter Try.func24, Try.ntmps24
  go_wp2
  go_end0
  exact ⟨rfl, (((HH.out.setE.2.1 p).setE.2.2 p).setE.1 1).ent, (((Below.refl B w).setCell (p := ⟨e, 1, none⟩) HH.out.be _).setCell (p := ⟨e, 2, none⟩) HH.out.be _).setCell (p := ⟨e, 0, none⟩) HH.out.be _⟩

set_option maxRecDepth 8000 in
set_option maxHeartbeats 4000000 in
theorem enter_oneY (B e r : Nat) (p span of_ ol : Int) (a : Option Addr) (n cap hd : Nat) (rs : List (Int × Int)) (w : World) (H : EntY B w e r 1 of_ ol a n cap hd rs) (hn : n ≤ 500000) :
    Calls Try.prog 24 #[.pointer (some ⟨e, 0, none⟩), .int .i64 p, .int .i64 span] w fun x w' => EnterPost B e w 2 of_ ol true (rs ++ [(p, p)]) hd x w' := by
  have HH : Hid (EntY B w e r 1 of_ ol a n cap hd rs) := H
  have c0 : w.cell? ⟨e, 0, none⟩ = some (.int .i64 1) := by rw [cell_of_heap H.he]; rfl
  have c3 : w.cell? ⟨e, 3, none⟩ = some (.pointer (some ⟨r, 0, none⟩)) := by rw [cell_of_heap H.he]; rfl
  have d0 : w.cell? ⟨r, 0, none⟩ = some (.slice a n cap) := by rw [cell_of_heap H.hr]; rfl
  have c3' : (w.alloc (.cells #[.int .i64 p, .int .i64 p] 45)).cell? ⟨e, 3, none⟩ = some (.pointer (some ⟨r, 0, none⟩)) := by rw [cell_of_heap ((heap_alloc_old w _ (lt_of_heap H.he)).trans H.he)]; rfl
  have d0' : (w.alloc (.cells #[.int .i64 p, .int .i64 p] 45)).cell? ⟨r, 0, none⟩ = some (.slice a n cap) := by rw [cell_of_heap ((heap_alloc_old w _ (lt_of_heap H.hr)).trans H.hr)]; rfl
  have HW : Hid (EntY B (w.alloc (.cells #[.int .i64 p, .int .i64 p] 45)).drew e r 1 of_ ol a n cap hd rs) := H.alloc _
  have HNb : Hid ((w.alloc (.cells #[.int .i64 p, .int .i64 p] 45)).drew.heap[w.heap.size]? = some (.cells #[.int .i64 p, .int .i64 p] 45 (0, 0))) := heap_alloc_new w _
  have hne := H.ne
  have hne2 := H.ne.symm
  have hBs : B ≤ w.heap.size := by have := H.be; have := lt_of_heap H.he; omega
  clear H
  go_enter Try.func24, Try.ntmps24
  go_wp2
  go_region_law ((refine step_app (by rfl) _ _ (by rfl) HW.out hn p w.heap.size HNb.out (by rfl) (by rfl) ?_; intro a' cap' w2 HP e0 e3 r0 g0 g1))
  all_goals
    have HF := app_fin HH.out.be HH.out.br HP.out.he HP.out.hr HP.out.own 2
    have HB : Below B w w2 := (((Below.refl B w).alloc hBs _).drew).trans HP.out.below
    go_wp2
    go_end0
    exact ⟨rfl, HF.1, HB.trans HF.2⟩

set_option maxRecDepth 8000 in
set_option maxHeartbeats 4000000 in
theorem enter_oneN (B e : Nat) (p span of_ ol : Int) (w : World) (H : EntN B w e 1 of_ ol) :
    Calls Try.prog 24 #[.pointer (some ⟨e, 0, none⟩), .int .i64 p, .int .i64 span] w fun x w' => EnterPost B e w 2 of_ ol true [(p, p)] 0 x w' := by
  have HH : Hid (EntN B w e 1 of_ ol) := H
  have c0 : w.cell? ⟨e, 0, none⟩ = some (.int .i64 1) := by rw [cell_of_heap H.2]; rfl
  have c3 : w.cell? ⟨e, 3, none⟩ = some (.pointer none) := by rw [cell_of_heap H.2]; rfl
  have f3 := frozen_of_heap H.2 3
  have hle := lt_of_heap H.2
  have HY : Hid (EntY B ((w.setCell ⟨e, 3, none⟩ (.pointer (some ⟨w.heap.size, 0, none⟩))).alloc (.cells #[.slice none 0 0, .int .i64 0] 51)) e w.heap.size 1 of_ ol none 0 0 0 []) := EntN.newRuns H
  have HB1 : Hid (Below B w ((w.setCell ⟨e, 3, none⟩ (.pointer (some ⟨w.heap.size, 0, none⟩))).alloc (.cells #[.slice none 0 0, .int .i64 0] 51))) := ((Below.refl B w).setCell (p := ⟨e, 3, none⟩) H.1 _).alloc (by have := H.1; simp; omega) _
  clear H
  go_enter Try.func24, Try.ntmps24
  go_upto_region 9 with fail
  generalize hr : w.heap.size = r at *
  generalize (w.setCell ⟨e, 3, none⟩ (.pointer (some ⟨r, 0, none⟩))).alloc (.cells #[.slice none 0 0, .int .i64 0] 51) = w1 at *
  have d3 : w1.cell? ⟨e, 3, none⟩ = some (.pointer (some ⟨r, 0, none⟩)) := by rw [cell_of_heap HY.out.he]; rfl
  have d0 : w1.cell? ⟨r, 0, none⟩ = some (.slice none 0 0) := by rw [cell_of_heap HY.out.hr]; rfl
  have d3' : (w1.alloc (.cells #[.int .i64 p, .int .i64 p] 45)).cell? ⟨e, 3, none⟩ = some (.pointer (some ⟨r, 0, none⟩)) := by rw [cell_of_heap ((heap_alloc_old w1 _ (lt_of_heap HY.out.he)).trans HY.out.he)]; rfl
  have d0' : (w1.alloc (.cells #[.int .i64 p, .int .i64 p] 45)).cell? ⟨r, 0, none⟩ = some (.slice none 0 0) := by rw [cell_of_heap ((heap_alloc_old w1 _ (lt_of_heap HY.out.hr)).trans HY.out.hr)]; rfl
  have HW : Hid (EntY B (w1.alloc (.cells #[.int .i64 p, .int .i64 p] 45)).drew e r 1 of_ ol none 0 0 0 []) := HY.out.alloc _
  have HNb : Hid ((w1.alloc (.cells #[.int .i64 p, .int .i64 p] 45)).drew.heap[w1.heap.size]? = some (.cells #[.int .i64 p, .int .i64 p] 45 (0, 0))) := heap_alloc_new w1 _
  have hne := HY.out.ne
  have hne2 := HY.out.ne.symm
  have hBs : B ≤ w1.heap.size := by have := HY.out.be; have := lt_of_heap HY.out.he; omega
  clear c0 c3 f3 hle hr
  go_region_law ((refine step_app (by rfl) _ _ (by rfl) HW.out (by omega) p w1.heap.size HNb.out (by rfl) (by rfl) ?_; intro a' cap' w2 HP e0 e3 r0 g0 g1))
  all_goals
    have HF := app_fin HY.out.be HY.out.br HP.out.he HP.out.hr HP.out.own 2
    have HB : Below B w w2 := ((HB1.out.alloc hBs _).drew).trans HP.out.below
    go_wp2
    go_end0
    exact ⟨rfl, HF.1, HB.trans HF.2⟩

set_option maxRecDepth 8000 in
set_option maxHeartbeats 4000000 in
theorem enter_zeroN (B e : Nat) (p span of_ ol : Int) (w : World) (H : EntN B w e 0 of_ ol) :
    Calls Try.prog 24 #[.pointer (some ⟨e, 0, none⟩), .int .i64 p, .int .i64 span] w fun x w' => EnterPost B e w 1 p p false [] 0 x w' := by
  have HH : Hid (EntN B w e 0 of_ ol) := H
  have c0 : w.cell? ⟨e, 0, none⟩ = some (.int .i64 0) := by rw [cell_of_heap H.2]; rfl
  have c1 : w.cell? ⟨e, 1, none⟩ = some (.int .i64 of_) := by rw [cell_of_heap H.2]; rfl
  have c2 : w.cell? ⟨e, 2, none⟩ = some (.int .i64 ol) := by rw [cell_of_heap H.2]; rfl
  have f0 := frozen_of_heap H.2 0
  have f1 := frozen_of_heap H.2 1
  have f2 := frozen_of_heap H.2 2
  clear H
  go_enter Try.func24, Try.ntmps24
  go_wp2
  go_end0
  have h1 : EntN B (((w.setCell ⟨e, 1, none⟩ (.int .i64 p)).setCell ⟨e, 2, none⟩ (.int .i64 p)).setCell ⟨e, 0, none⟩ (.int .i64 1)) e 1 p p :=
    ⟨HH.out.1, by rw [heap_set_at (heap_set_at (heap_set_at HH.out.2 _ _) _ _)]; rfl⟩
  exact ⟨rfl, h1.ent, (((Below.refl B w).setCell (p := ⟨e, 1, none⟩) HH.out.1 _).setCell (p := ⟨e, 2, none⟩) HH.out.1 _).setCell (p := ⟨e, 0, none⟩) HH.out.1 _⟩
end Go.Proofs.Qxb6618191a
