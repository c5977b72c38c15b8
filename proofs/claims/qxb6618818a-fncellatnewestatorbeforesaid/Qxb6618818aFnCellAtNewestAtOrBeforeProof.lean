/-
  FnCellAtNewestAtOrBefore answers true whatever its input: the walk, and the row's step (the guide's template at this function).
-/
import Derived.Test.Qxb6618818aLaws
import Derived.WalkKit
import Derived.ProofKit
import Derived.OpenShut
import Derived.ShutString
import Derived.ChangeOld
import Derived.Below
namespace Go.Proofs.Qxb6618818a.fnCellAtNewestAtOrBefore
open Go.ChangeShapes Go.WideShapes Go.ChangeAt Go.RowKit
open Go.ChangeMaps (open_string shut_string)
set_option linter.unusedVariables false

set_option maxHeartbeats 1000000 in
theorem top4 (a : Option Addr) (n cap : Nat) (l : List Int) (q : Int) (w : World) (hl : l.length = n) (ha : a = none → n = 0) (hr : Row w a l) (hw : ∀ s ∈ l, s ≤ 18446744073709551615) :
    Calls Try.prog 4 #[.slice a n cap, .int .u64 q] w fun e w' => e = .returned (.bool true) ∧ Below w.heap.size w w' := by
  have HL : Hid (l.length = n) := hl
  have HA : Hid (a = none → n = 0) := ha
  have HR : Hid (Row w a l) := hr
  have HW : Hid (∀ s ∈ l, s ≤ 18446744073709551615) := hw
  clear hl ha hr hw
  by_cases h1 : n ≤ 65536
  · go_enter Try.func4, Try.ntmps4
    go_wp2_with (go_at_call 10; go_in)
    refine (falling_any _ _ _ _ _ HL.out h1 HR.out).mono ?_
    rintro e w1 ⟨r, rfl, hf, nq, rfl⟩
    have HF : Hid (r = true ↔ Falls l) := hf
    clear hf
    cases r
    · go_wp2
      go_ret
      exact ⟨rfl, below_draw (Below.refl _ _) _⟩
    · have HF2 : Hid (Falls l) := HF.out.1 rfl
      go_wp2_with fail
      refine (clone_any _ _ _ _ _ HL.out h1 HA.out (HR.out.draw _)).mono ?_
      rintro e w2 ⟨a2, rfl, ha2, hr2, hb2⟩
      have HR2 : Hid (Row w2 a2 l) := hr2
      have HB2 : Hid (Below w.heap.size w w2) := (below_draw (Below.refl _ _) nq).trans hb2
      clear HR HF hr2 hb2 ha2
      go_wp2_with fail
      refine (newCell_any _ _ _ _ _ HL.out h1 HR2.out).mono ?_
      rintro e w3 ⟨rfl, hk3, hb3⟩
      have HK3 : Hid (CellOk w3 w2.heap.size l) := hk3
      have HR3 : Hid (Row w3 a2 l) := HR2.out.below hb3
      have HB3 : Hid (Below w.heap.size w w3) := HB2.out.trans (hb3.mono HB2.out.size)
      clear HR2 HB2 hk3 hb3
      generalize w2.heap.size = c at *
      go_wp2_with fail
      refine (cellAt_any _ _ _ _ HK3.out).mono ?_
      rintro e w4 ⟨rfl, nq4, hw4⟩
      have HK4 : Hid (CellOk w4 c l) := by rw [hw4]; exact HK3.out.draw _
      have HR4 : Hid (Row w4 a2 l) := by rw [hw4]; exact HR3.out
      have HB4 : Hid (Below w.heap.size w w4) := by rw [hw4]; exact below_draw HB3.out _
      clear HK3 HR3 HB3 hw4
      go_wp2_with fail
      refine (greatest_any _ _ _ _ _ _ HL.out h1 HR4.out).mono ?_
      rintro e w5 ⟨rfl, rfl⟩
      rw [gto_newest HL.out HF2.out]
      cases ho : newest q l with
      | none =>
        clear ho
        go_wp2
        go_ret
        exact ⟨rfl, HB4.out⟩
      | some s =>
        have HO : Hid (newest q l = some s) := ho
        clear ho
        have hs64 : s ≤ 18446744073709551615 := HW.out s (newest_mem HO.out)
        go_wp2_with fail
        refine (cellAt_any _ _ _ _ HK4.out).mono ?_
        rintro e w6 ⟨rfl, nq6, hw6⟩
        rw [newest_again HO.out]
        have HK6 : Hid (CellOk w6 c l) := by rw [hw6]; exact HK4.out.draw _
        have HB6 : Hid (Below w.heap.size w w6) := by rw [hw6]; exact below_draw HB4.out _
        clear HK4 HB4 HR4 hw6
        by_cases hpos : 0 < s
        · go_wp2_with fail
          refine (cellAt_any _ _ _ _ HK6.out).mono ?_
          rintro e w7 ⟨rfl, nq7, hw7⟩
          have HB7 : Hid (Below w.heap.size w w7) := by rw [hw7]; exact below_draw HB6.out _
          clear hw7
          cases ho : newest (s - 1) l with
          | none =>
            clear ho
            go_wp2
            go_ret
            exact ⟨rfl, HB7.out⟩
          | some t =>
            have ht := newest_le ho
            clear ho
            go_wp2
            go_ret
            exact ⟨rfl, HB7.out⟩
        · go_wp2
          go_ret
          exact ⟨rfl, HB6.out⟩
  · by_cases h2 : n ≤ 1048576
    · go_enter Try.func4, Try.ntmps4
      go_wp2_with (go_at_call 10; go_in)
      go_ret
      exact ⟨rfl, Below.refl _ _⟩
    · go_enter Try.func4, Try.ntmps4
      go_wp2_with (go_at_call 10; go_in)
      go_ret
      exact ⟨rfl, Below.refl _ _⟩

theorem own : ownKnob Try.prog.godebug = none := by kernel_rfl
theorem laidOut : laidOutB Try.prog = true := by kernel_rfl

/-- WHAT THE WALK IS TOLD OF A SLICE OF INTEGERS THAT CAME IN: it is nil; or it leads to a row of 'cap' cells, the numbers 'zs' (the first 'len' are its elements, the rest its spare room), each fitting its kind. -/
def IsRow (k : IntKind) (w : World) (a : Option Addr) (len cap : Nat) (zs : List Int) : Prop :=
  (a = none ∧ len = 0 ∧ cap = 0 ∧ zs = []) ∨
  ∃ x, a = some x ∧ len ≤ cap ∧ cap ≤ maxLen ∧ zs.length = cap ∧ (∀ i, i < zs.length → w.cell? (x.add i) = some (.int k (zs.getD i 0))) ∧ ∀ n ∈ zs, (Lit.int k n).wf = true

/-! ### STEP 1: THE WALK: the Go text returns true, AND WRITES NOTHING THAT WAS THERE: 'Below w.heap.size w w'' (Derived/Below.lean: '.refl', '.alloc', '.drew', '.setCell' at a new block, '.trans'). Open each 'IsRow' by 'rcases' AHEAD of 'go_enter'; part every test ahead of the walk. -/
theorem walk (a0 : Option Addr) (len0 cap0 : Nat) (z0 : List Int) (a1 : Int) (w : World) (w0 : IsRow .u64 w a0 len0 cap0 z0) (w1 : (Lit.int .u64 a1).wf = true) :
    Calls Try.prog 4 #[.slice a0 len0 cap0, .int .u64 a1] w fun e w' => e = .returned (.bool true) ∧ Below w.heap.size w w' := by
  obtain ⟨hl, ha, hr, hw⟩ := row_of w0
  exact top4 a0 len0 cap0 _ a1 w hl ha hr hw

/-! ### THE ROW's STEP: WRITTEN OUT: LEAVE IT -/
set_option maxRecDepth 100000 in
theorem lifted (os : Os) (started : os.Started) (H : Type) (enc : TypeId × Value → H) :
    ReturnsInHanded {} Try.checked os 4 .any (Rows.fnCellAtNewestAtOrBeforeSpec.pre6 enc Try.prog Try.f4 Rows.fnCellAtNewestAtOrBeforeRow.domain false) (Rows.fnCellAtNewestAtOrBeforeSpec.post enc Try.prog Try.f4 false true false false) := by
  refine returnsInHanded_of_change (C := Try.checked) own started (by kernel_rfl) Try.func4
    (ChangeSpec.witness6 (enc := enc) (C := Try.checked) false ⟨#[], #[.slice none 0 0, .int .u64 0], []⟩ 8 (by kernel_rfl) (by kernel_rfl) (by kernel_rfl) (by kernel_rfl)) ?_
  intro W base args ds gs before hval0 hW hcnd _
  have hval : ∀ (j : Nat) t v, Try.f4.params[j]? = some t → args[j]? = some v → Value.okWide Try.prog W .any base t v := hval0
  have hW' := hW
  obtain ⟨p, q, hA0, hV, rfl, hfz, hnd⟩ := hW
  have hA : DataW.TrodAll enc Try.prog W 0 (fun _ => true) true Try.f4.params.toList args.toList ds p := hA0
  rw [Try.params4] at hA hval
  obtain ⟨v0, vs0, d0, ds0, p0, q0, hargs, rfl, rfl, h0, r0⟩ := trodAll_cons hA
  obtain ⟨v1, vs1, d1, ds1, p1, q1, rfl, rfl, rfl, h1, r1⟩ := trodAll_cons r0
  obtain ⟨rfl, rfl, rfl⟩ := trodAll_nil r1
  obtain rfl : args = #[v0, v1] := by cases args; simp_all
  obtain ⟨rfl, rfl⟩ := trodVars_none hV
  obtain ⟨a0, len0, cap0, rfl⟩ := okWide_slice Try.underlying30 (hval 0 30 v0 rfl rfl)
  have k0 := h0
  have lt0 : ∀ x ∈ p0, x.block < W.heap.size := by obtain ⟨m, hm⟩ := k0; exact DataW.trod_lt m _ _ _ hm
  obtain ⟨z0, w0⟩ : ∃ zs, IsRow .u64 W a0 len0 cap0 zs := by
    obtain ⟨fuel, hf⟩ := h0
    rcases open_ints Try.underlying30 Try.underlying22 (by kernel_rfl) hf with ⟨hcs, _⟩ | ⟨x, l, c, zs, hcs, _, hl, hm, hz, _, hcell, hwz⟩
    · simp [Value.cells] at hcs
      obtain ⟨rfl, rfl, rfl⟩ := hcs
      exact ⟨[], .inl ⟨rfl, rfl, rfl, rfl⟩⟩
    · simp [Value.cells] at hcs
      obtain ⟨rfl, rfl, rfl⟩ := hcs
      exact ⟨zs, .inr ⟨_, rfl, hl, hm, by simpa using hz, hcell, hwz⟩⟩
  obtain ⟨a1, rfl, rfl, rfl, w1⟩ := open_int Try.underlying22 (hval 1 22 v1 rfl rfl) h1
  clear hA0 hval0
  refine (walk a0 len0 cap0 z0 a1 W w0 w1).mono fun e W' ⟨he, bel⟩ => ?_
  subst he
  exact ⟨_, rfl, _, _, _, [], _, [], hW', trodAll_mk1 (shut_bool Try.underlying4 _), (trodAll_cons_mk (Below.trod laidOut (by kernel_rfl) (of_decide_eq_true (by kernel_rfl)) k0 bel lt0) (trodAll_cons_mk (shut_int Try.underlying22 w1) trodAll_mk0)), rfl, bel.frame _, fun h => by cases h⟩

theorem over : Rows.fnCellAtNewestAtOrBeforeRow.holds Try.pinned (OpenSpec.ofChange Rows.fnCellAtNewestAtOrBeforeSpec) :=
  OpenClaim.holds_of_wide 4 Try.f4 rfl rfl rfl rfl rfl rfl rfl ⟨rfl, rfl, rfl, rfl, rfl⟩ rfl rfl rfl rfl rfl (by kernel_rfl) Try.func4 (by kernel_rfl)
    (of_decide_eq_true (by kernel_rfl)) (by unfold Func.isWrapper; first | (rw [if_pos (by decide +kernel)]; kernel_rfl) | (rw [if_neg (by decide +kernel)]; exact ⟨rfl, rfl⟩))
    (fun os started H enc _ => lifted os started H enc)

/-- ████ THE STATEMENT ████ -/
theorem proved : Rows.FnCellAtNewestAtOrBeforeSaid := over
#print axioms proved
end Go.Proofs.Qxb6618818a.fnCellAtNewestAtOrBefore
