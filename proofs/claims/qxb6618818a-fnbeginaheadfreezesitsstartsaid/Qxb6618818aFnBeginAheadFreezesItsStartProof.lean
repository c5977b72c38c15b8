/-
  FnBeginAheadFreezesItsStart answers true whatever its input: the walk, and the row's step (the guide's template at this function).
-/
import Derived.Test.Qxb6618818aStore
import Derived.WalkKit
import Derived.ProofKit
import Derived.OpenShut
import Derived.ShutString
namespace Go.Proofs.Qxb6618818a.fnBeginAheadFreezesItsStart
open Go.ChangeShapes Go.WideShapes Go.ChangeAt Go.RowKit
open Go.ChangeMaps (open_string shut_string)
set_option linter.unusedVariables false      -- a walk need not use every 'w<i>' (that an integer argument fits its kind)

theorem own : ownKnob Try.prog.godebug = none := by kernel_rfl

/-! ### STEP 1: THE WALK: the Go text returns true. 'Grown w w'': the world has at most new blocks (Derived/RowKit3.lean). Part the cases AHEAD of 'go_enter' where a test parts the walk; take each callee by a contract of your own. -/
set_option maxHeartbeats 1000000 in
theorem walk (a0 : Int) (a1 : Int) (w0 : (Lit.int .u64 a0).wf = true) (w1 : (Lit.int .u64 a1).wf = true) (w : World) :
    Calls Try.prog 3 #[.int .u64 a0, .int .u64 a1] w fun e w' => e = .returned (.bool true) ∧ Grown w w' := by
  by_cases hlt : a1 < a0
  · go_enter Try.func3, Try.ntmps3
    go_wp2
    go_ret
    exact ⟨rfl, by repeat (first | exact Grown.refl _ | apply Grown.drew | apply Grown.alloc)⟩
  · clear w0 w1
    go_enter Try.func3, Try.ntmps3
    go_wp2_with fail
    refine (newStoreAt _ _).mono ?_
    rintro e w1 ⟨rfl, ⟨hc1, hz1, hs1⟩, hg1⟩
    go_wp2_with fail
    refine (beginAhead _ _ _ hc1).mono ?_
    rintro e w2 ⟨rfl, hw2⟩
    have hc2 : w2.cell? ⟨w.heap.size + 1, 12, none⟩ = some (.int .u64 a0) := by rw [hw2, World.cell?_alloc_past _ _ _ (by omega)]; exact hc1
    have hz2 : w2.frozen? ⟨w.heap.size + 1, 12, none⟩ = false := by rw [hw2, World.frozen?_alloc_past _ _ _ (by omega)]; exact hz1
    have ht2 : txnAt w2 (w.heap.size + 2) (w.heap.size + 1) a0 := by rw [hw2, ← hs1]; exact heap_alloc_new _ _
    have hg2 : Grown w w2 := by rw [hw2]; exact hg1.alloc _ _
    have hs2 : w2.heap.size = w.heap.size + 3 := by rw [hw2]; simp [hs1]
    rw [hs1]
    clear hw2 hc1 hz1 hg1 hs1
    go_wp2_with fail
    refine (setClock _ _ _ _ hc2 hz2).mono ?_
    rintro e w3 ⟨rfl, hw3⟩
    have hc3 : w3.cell? ⟨w.heap.size + 1, 12, none⟩ = some (.int .u64 a1) := by rw [hw3]; exact World.cell?_setCell_same _ _ _ hc2
    have ht3 : txnAt w3 (w.heap.size + 2) (w.heap.size + 1) a0 := by rw [hw3]; unfold txnAt; rw [Below.heap_setCell _ _ _ _ (by simp)]; exact ht2
    have hg3 : Grown w w3 := by rw [hw3]; exact hg2.setCell (by simp) _
    have hs3 : w3.heap.size = w.heap.size + 3 := by rw [hw3]; simp [hs2]
    clear hw3 hc2 hz2 ht2 hg2 hs2
    go_wp2_with fail
    refine (beginAhead _ _ _ hc3).mono ?_
    rintro e w4 ⟨rfl, hw4⟩
    have ht4 : txnAt w4 (w.heap.size + 2) (w.heap.size + 1) a0 := by rw [hw4]; unfold txnAt; rw [heap_alloc_old _ _ (by omega)]; exact ht3
    have hu4 : txnAt w4 (w.heap.size + 3) (w.heap.size + 1) a1 := by rw [hw4, ← hs3]; exact heap_alloc_new _ _
    have hg4 : Grown w w4 := by rw [hw4]; exact hg3.alloc _ _
    rw [hs3]
    clear hw4 hc3 ht3 hg3 hs3
    have he := eql25_other (a := ⟨w.heap.size + 3, 0, none⟩) (b := ⟨w.heap.size + 2, 0, none⟩) w4 (by simp) hu4 ht4
    go_wp2_with fail
    refine (fresh_at _ _ _ _ ht4).mono ?_
    rintro e w5 ⟨rfl, n1, hw5⟩
    have hu5 : txnAt w5 (w.heap.size + 3) (w.heap.size + 1) a1 := by rw [hw5]; unfold txnAt; rw [heap_drewN]; exact hu4
    have hg5 : Grown w w5 := by rw [hw5]; exact grown_drewN hg4 _
    clear hw5 he ht4 hu4 hg4
    go_wp2_with fail
    refine (fresh_at _ _ _ _ hu5).mono ?_
    rintro e w6 ⟨rfl, n2, hw6⟩
    have hg6 : Grown w w6 := by rw [hw6]; exact grown_drewN hg5 _
    clear hw6 hu5 hg5
    go_wp2
    go_ret
    exact ⟨rfl, hg6⟩

/-! ### THE ROW's STEP: WRITTEN OUT: LEAVE IT -/
set_option maxRecDepth 100000 in
theorem lifted (os : Os) (started : os.Started) (H : Type) (enc : TypeId × Value → H) :
    ReturnsInHanded {} Try.checked os 3 .any (Rows.fnBeginAheadFreezesItsStartSpec.pre6 enc Try.prog Try.f3 Rows.fnBeginAheadFreezesItsStartRow.domain false) (Rows.fnBeginAheadFreezesItsStartSpec.post enc Try.prog Try.f3 false true false false) := by
  refine returnsInHanded_of_change (C := Try.checked) own started (by kernel_rfl) Try.func3
    (ChangeSpec.witness6 (enc := enc) (C := Try.checked) false ⟨#[], #[.int .u64 0, .int .u64 0], []⟩ 8 (by kernel_rfl) (by kernel_rfl) (by kernel_rfl) (by kernel_rfl)) ?_
  intro W base args ds gs before hval0 hW hcnd _
  have hval : ∀ (j : Nat) t v, Try.f3.params[j]? = some t → args[j]? = some v → Value.okWide Try.prog W .any base t v := hval0
  have hW' := hW
  obtain ⟨p, q, hA0, hV, rfl, hfz, hnd⟩ := hW
  have hA : DataW.TrodAll enc Try.prog W 0 (fun _ => true) true Try.f3.params.toList args.toList ds p := hA0
  rw [Try.params3] at hA hval
  obtain ⟨v0, vs0, d0, ds0, p0, q0, hargs, rfl, rfl, h0, r0⟩ := trodAll_cons hA
  obtain ⟨v1, vs1, d1, ds1, p1, q1, rfl, rfl, rfl, h1, r1⟩ := trodAll_cons r0
  obtain ⟨rfl, rfl, rfl⟩ := trodAll_nil r1
  obtain rfl : args = #[v0, v1] := by cases args; simp_all
  obtain ⟨rfl, rfl⟩ := trodVars_none hV
  obtain ⟨a0, rfl, rfl, rfl, w0⟩ := open_int Try.underlying22 (hval 0 22 v0 rfl rfl) h0
  obtain ⟨a1, rfl, rfl, rfl, w1⟩ := open_int Try.underlying22 (hval 1 22 v1 rfl rfl) h1
  clear hA0 hval0
  simp only [List.append_nil] at hW'
  refine (walk a0 a1 w0 w1 W).mono fun e W' ⟨he, hg⟩ => ?_
  subst he
  exact ⟨_, rfl, post_of_same (pa := []) (pv := []) hW' (fun _ _ _ => (trodAll_cons_mk (shut_bool Try.underlying4 _) trodAll_mk0)) (fun sp _ => (trodAll_cons_mk (shut_int Try.underlying22 w0) (trodAll_cons_mk (shut_int Try.underlying22 w1) trodAll_mk0))) (fun _ _ => rfl) rfl
    (hg.frame _) hg.2.1 (ok_one (by kernel_rfl) rfl (okWide_bool_mk Try.underlying4 _))⟩

theorem over : Rows.fnBeginAheadFreezesItsStartRow.holds Try.pinned (OpenSpec.ofChange Rows.fnBeginAheadFreezesItsStartSpec) :=
  OpenClaim.holds_of_wide 3 Try.f3 rfl rfl rfl rfl rfl rfl rfl ⟨rfl, rfl, rfl, rfl, rfl⟩ rfl rfl rfl rfl rfl (by kernel_rfl) Try.func3 (by kernel_rfl)
    (of_decide_eq_true (by kernel_rfl)) (by unfold Func.isWrapper; first | (rw [if_pos (by decide +kernel)]; kernel_rfl) | (rw [if_neg (by decide +kernel)]; exact ⟨rfl, rfl⟩))
    (fun os started H enc _ => lifted os started H enc)

/-- ████ THE STATEMENT ████ -/
theorem proved : Rows.FnBeginAheadFreezesItsStartSaid :=
  over
#print axioms proved
end Go.Proofs.Qxb6618818a.fnBeginAheadFreezesItsStart
