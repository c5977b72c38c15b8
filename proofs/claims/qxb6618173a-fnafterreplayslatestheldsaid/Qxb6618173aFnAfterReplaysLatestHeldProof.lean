/-
  FnAfterReplaysLatestHeld answers true whatever its input: the walk, and the row's step (the guide's template at this function).
-/
import Derived.Test.Qxb6618173aStand
import Derived.WalkKit
import Derived.ProofKit
import Derived.OpenShut
import Derived.ShutString
import Derived.ChangeOld
import Derived.Below
namespace Go.Proofs.Qxb6618173a.fnAfterReplaysLatestHeld
open Go.ChangeShapes Go.WideShapes Go.ChangeAt Go.RowKit
open Go.ChangeMaps (open_string shut_string)
set_option linter.unusedVariables false

theorem zz14 (a : Option Addr) (n cap : Nat) (x1 x2 x3 : Int) (w : World) (h : n ≤ 1048576) :
    Calls Try.prog 14 #[.slice a n cap, .int .i64 x1, .int .u64 x2, .int .u64 x3] w fun e w' => e = .returned (.bool true) ∧ w' = w := by
  go_enter Try.func14, Try.ntmps14
  go_wp2
  go_ret
  exact ⟨rfl, rfl⟩

set_option maxRecDepth 100000 in
set_option maxHeartbeats 4000000 in
theorem top4 (a : Option Addr) (n cap : Nat) (l : List Int) (by_ since last : Int) (w : World) (hl : l.length = n) (ha : a = none → n = 0) (hr : Row w a l) (hs0 : 0 ≤ since) (hl0 : 0 ≤ last) (hl1 : last ≤ 18446744073709551615) :
    Calls Try.prog 4 #[.slice a n cap, .int .i64 by_, .int .u64 since, .int .u64 last] w fun e w' => e = .returned (.bool true) ∧ Below w.heap.size w w' := by
  have HL : Hid (l.length = n) := hl
  have HA : Hid (a = none → n = 0) := ha
  have HR : Hid (Row w a l) := hr
  have hnil : ∀ (w : World) (a : Option Addr) (n c n' c' : Nat), (binOp .neq 22 (.slice a n c) (.slice none n' c')).run Try.prog w = .ok (.bool (!a.isNone)) w := fun w a n c n' c' => run_neq_slice_nil_any w 22 3 a n c n' c' Try.underlying22
  have hmk := run_make_row' (P := Try.prog) 22 3 (.int .i64 0) 8 Try.underlying22 info3 rfl .i64 .i64 n
  clear hl ha hr
  by_cases h1 : n ≤ 65536
  · have hd0 : decide (65536 < (n : Int)) = false := by simp; omega
    have hmk2 := hmk (by omega) (by omega)
    clear hmk
    by_cases hok : last ≤ 18446744073709551614 ∧ since ≤ last ∧ (n : Int) ≤ last
    · obtain ⟨hl2, hsl, hnl⟩ := hok
      have hd1 : (last == 18446744073709551615) = false := beq_eq_false_iff_ne.2 (by omega)
      have hd2 : decide (last < since) = false := decide_eq_false (by omega)
      have hd3 : decide (last < (n : Int)) = false := decide_eq_false (by omega)
      go_enter Try.func4, Try.ntmps4
      go_wp2_with fail
      refine (zz14 _ _ _ _ _ _ _ (by omega)).mono ?_
      rintro e w1 ⟨rfl, rfl⟩
      go_upto_if 43 with fail
      go_cut [0, 9] from 44 to 50 (fun s _ wx => ∃ a' c', s = .slice a' n c' ∧ (a' = none → n = 0) ∧ Row wx a' l ∧ Below w1.heap.size w1 wx)
      case first =>
        cases a with
        | none =>
          have hn0 := HA.out rfl
          subst hn0
          go_wp2
          go_meet
          case rel => exact ⟨none, cap, rfl, (by simp), HR.out, Below.refl _ _⟩
        | some x =>
          obtain ⟨w2, hcp, hr2, hb2⟩ := copied w1 x n cap l 3 HL.out HR.out
          have HR2 : Hid (Row w2 (some ⟨w1.heap.size, 0, none⟩) l) := hr2
          have HB2 : Hid (Below w1.heap.size w1 w2) := hb2
          clear hr2 hb2
          go_wp2
          go_meet
          case rel => exact ⟨_, _, rfl, fun h => (by cases h), HR2.out, HB2.out⟩
      case rest =>
        obtain ⟨a', c', rfl, ha', hr', hb'⟩ := hcut
        have HR2 : Hid (Row wc a' l) := hr'
        have HB2 : Hid (Below w1.heap.size w1 wc) := hb'
        clear ha' hr' hb' HA hnil hmk2 HR
        go_wp2_with fail
        refine (mkEvents _ n wc (by omega) (by omega) h1).mono ?_
        rintro e w3 ⟨rfl, hev, hb3⟩
        have HE3 : Hid (Evs w3 wc.heap.size (last + 1 - (n : Int)) n) := hev
        have HR3 : Hid (Row w3 a' l) := HR2.out.below hb3
        have HB3 : Hid (Below w1.heap.size w1 w3) := HB2.out.trans (hb3.mono HB2.out.size)
        clear hev hb3 HR2 HB2
        generalize wc.heap.size = eb at *
        go_wp2_with fail
        refine (mkHist a' l eb n c' w3.heap.size _ by_ w3 HL.out HR3.out HE3.out h1 (Nat.le_refl _)).mono ?_
        rintro e w4 ⟨rfl, hh, hb4⟩
        have HH4 : Hid (Hist w4 w3.heap.size (w3.heap.size + 1) (esOf eb l n) by_) := hh
        have HR4 : Hid (Row w4 a' l) := HR3.out.below hb4
        have HE4 : Hid (Evs w4 eb (last + 1 - (n : Int)) n) := HE3.out.below hb4
        have HB4 : Hid (Below w1.heap.size w1 w4) := HB3.out.trans (hb4.mono HB3.out.size)
        clear hh hb4 HR3 HE3 HB3
        generalize w3.heap.size = B at *
        obtain ⟨m, d, hm, hd, hm1, hm2, hdm, hmn⟩ := many n since last hsl
        subst hdm
        have HM : Hid ((since + n < last → m = n) ∧ (last ≤ since + n → (m : Int) = last - since)) := ⟨hm1, hm2⟩
        obtain ⟨gone, hg⟩ : ∃ gone, gone = last - since - (m : Int) := ⟨_, rfl⟩
        have HG : Hid (gone = last - since - (m : Int)) := hg
        clear hm hd hm1 hm2 hg
        go_wp2_with fail
        refine (zzAfter B (B + 1) n m (n - m) (esOf eb l n) by_ since last w4 HH4.out (esOf_length _ _ _) h1 hs0 hsl hl2 hnl (by omega) (by omega) HM.out.1 HM.out.2 gone HG.out).mono ?_
        rintro e w5 ⟨av, capv, rfl, ho, hb5⟩
        have HO5 : Hid (w5.ownsRow w4.heap.size 29 1 (.slice av m capv) m (ptrs (esOf eb l n) (n - m) m)) := ho
        have HH5 : Hid (Hist w5 B (B + 1) (esOf eb l n) by_) := HH4.out.below hb5
        have HR5 : Hid (Row w5 a' l) := HR4.out.below hb5
        have HE5 : Hid (Evs w5 eb (last + 1 - (n : Int)) n) := HE4.out.below hb5
        have HB5 : Hid (Below w1.heap.size w1 w5) := HB4.out.trans (hb5.mono HB4.out.size)
        clear ho hb5 HH4 HR4 HE4 HB4
        generalize w4.heap.size = B2 at *
        go_upto_if 75 with fail
        go_cut [15, 75] from 76 to 77 (fun s _ wx => s = .int .u64 m ∧ Hid (Stand w1 wx B (B + 1) eb w5.heap.size B2 n m l a' av capv (last + 1 - (n : Int)) by_ last gone (esOf eb l n)))
        case first =>
          have hb6 : Below w5.heap.size w5 (w5.alloc (.cells #[.int .u64 last, .int .u64 gone, .slice av m capv] 41)) := (Below.refl _ _).alloc (Nat.le_refl _) _
          have HS : Hid (Stand w1 (w5.alloc (.cells #[.int .u64 last, .int .u64 gone, .slice av m capv] 41)) B (B + 1) eb w5.heap.size B2 n m l a' av capv (last + 1 - (n : Int)) by_ last gone (esOf eb l n)) :=
            ⟨HH5.out.below hb6, HR5.out.below hb6, HE5.out.below hb6, by rw [esOf_length]; exact owns_below hb6 HO5.out, heap_alloc_new _ _, HB5.out.trans (hb6.mono HB5.out.size)⟩
          clear hb6
          by_cases hgo : since + n < last
          · have e1 : m = n := HM.out.1 hgo
            have hx : (n : Int) < last - since := by omega
            have HX : Hid (m = n) := e1
            clear e1
            go_wp2
            go_meet
            case rel => exact ⟨by rw [HX.out], HS⟩
          · have e1 : (m : Int) = last - since := HM.out.2 (by omega)
            have hx : ¬ (n : Int) < last - since := by omega
            have HX : Hid ((m : Int) = last - since) := e1
            clear e1
            go_wp2
            go_meet
            case rel => exact ⟨by rw [HX.out], HS⟩
        case rest =>
          obtain ⟨rfl, HS⟩ := hcut
          have r0 : wc.cell? ⟨w5.heap.size, 0, none⟩ = some (.int .u64 last) := by rw [cell_of_heap HS.out.r]; rfl
          have r1 : wc.cell? ⟨w5.heap.size, 1, none⟩ = some (.int .u64 gone) := by rw [cell_of_heap HS.out.r]; rfl
          have r2 : wc.cell? ⟨w5.heap.size, 2, none⟩ = some (.slice av m capv) := by rw [cell_of_heap HS.out.r]; rfl
          have hgn : last - since - (m : Int) = gone := HG.out.symm
          have hg0 : 0 ≤ last - since - (m : Int) := by
            have p1 := HM.out.1
            have p2 := HM.out.2
            omega
          have hne := neq29_same
          clear HH5 HR5 HE5 HB5 HO5
          obtain ⟨rb, hrb⟩ : ∃ rb, rb = w5.heap.size := ⟨_, rfl⟩
          rw [← hrb] at r0 r1 r2 HS ⊢
          clear hrb
          go_wp2_with fail
          clear r0 r1 r2
          go_loopw [17] (fun i wr => ∃ j : Nat, j ≤ m ∧ i = .int .i64 j ∧ Hid (Stand w1 wr B (B + 1) eb rb B2 n m l a' av capv (last + 1 - (n : Int)) by_ last gone (esOf eb l n))) (fun i _ => m - (intOf i).toNat)
          case atStart => exact ⟨0, by omega, rfl, HS⟩
          case round =>
            obtain ⟨j, hjm, rfl, HT⟩ := hrel
            clear HS
            by_cases hlt : j < m
            · obtain ⟨g, rfl, hc⟩ := HT.out.event hlt (by rw [esOf_length]; exact esOf_at (show n - m + j < n by omega))
              have hce := HT.out.evs.1.cell (show n - m + j < n by omega)
              have r2 : wr.cell? ⟨rb, 2, none⟩ = some (.slice (some ⟨g, 0, none⟩) m capv) := by rw [cell_of_heap HT.out.r]; rfl
              have b0 : (j : Int) < (m : Int) := by omega
              have b1 : (0 : Int) ≤ (n : Int) - (m : Int) + (j : Int) := by omega
              have b2 : (n : Int) - (m : Int) + (j : Int) < (n : Int) := by omega
              go_wp2
              go_quiet (fail)
              go_wp2
              go_roundw
              case rel => exact ⟨j + 1, by omega, by go_num, HT.out.draw _⟩
              case measure => simp [intOf]; omega
            · have HH : Hid (Hist wr B (B + 1) (esOf eb l n) by_) := HT.out.hist
              have hlen := esOf_length eb l n
              have HLn : Hid ((esOf eb l n).length = n) := hlen
              clear hlen
              go_wp2_with fail
              refine (histLen B (B + 1) (esOf eb l n) by_ _ HH.out).mono ?_
              rintro e w' ⟨rfl, rfl⟩
              rw [HLn.out]
              go_wp2_with fail
              refine (histBytes B (B + 1) (esOf eb l n) by_ _ HH.out).mono ?_
              rintro e w' ⟨rfl, rfl⟩
              clear HH
              go_wp2_with fail
              go_loopw [18] (fun i wx => ∃ j : Nat, j ≤ n ∧ i = .int .i64 j ∧ Hid (Stand w1 wx B (B + 1) eb rb B2 n m l a' av capv (last + 1 - (n : Int)) by_ last gone (esOf eb l n))) (fun i _ => n - (intOf i).toNat)
              case atStart => exact ⟨0, by omega, rfl, HT⟩
              case round =>
                obtain ⟨i, hin, rfl, HT⟩ := hrel
                by_cases hlt2 : i < n
                · obtain ⟨b, off, rfl, hc⟩ := HT.out.row.at HL.out hlt2
                  have hce := HT.out.evs.1.cell hlt2
                  have HX : Hid ((esOf eb l n)[i]? = some (eb + 1 + i, l[i]?.getD 0)) := esOf_at hlt2
                  have HH : Hid (Hist wr B (B + 1) (esOf eb l n) by_) := HT.out.hist
                  have b0 : (i : Int) < (n : Int) := by omega
                  go_wp2
                  go_quiet ((first | (go_at_call 12; exact Calls.quiet_of_same (histEvent B (B + 1) _ _ i _ _ (HH.out.draw _) HX.out)) | (go_at_call 13; exact Calls.quiet_of_same (histSize B (B + 1) _ _ i _ _ (HH.out.draw _) HX.out))))
                  go_wp2
                  go_roundw
                  case rel => exact ⟨i + 1, by omega, by go_num, HT.out.draw _⟩
                  case measure => simp [intOf]; omega
                · go_wp2
                  go_ret
                  exact ⟨rfl, HT.out.below⟩
    · by_cases hl2 : last ≤ 18446744073709551614
      · have hd1 : (last == 18446744073709551615) = false := beq_eq_false_iff_ne.2 (by omega)
        by_cases hsl : since ≤ last
        · have hd2 : decide (last < since) = false := decide_eq_false (by omega)
          have hnl : last < (n : Int) := by omega
          clear hok
          go_enter Try.func4, Try.ntmps4
          go_wp2_with (go_at_call 14; go_in)
          go_ret
          exact ⟨rfl, Below.refl _ _⟩
        · have hnl : last < since := by omega
          clear hok
          go_enter Try.func4, Try.ntmps4
          go_wp2_with (go_at_call 14; go_in)
          go_ret
          exact ⟨rfl, Below.refl _ _⟩
      · have hd1 : (last == 18446744073709551615) = true := beq_iff_eq.2 (by omega)
        clear hok
        go_enter Try.func4, Try.ntmps4
        go_wp2_with (go_at_call 14; go_in)
        go_ret
        exact ⟨rfl, Below.refl _ _⟩
  · by_cases h2 : n ≤ 1048576
    · go_enter Try.func4, Try.ntmps4
      go_wp2_with (go_at_call 14; go_in)
      go_ret
      exact ⟨rfl, Below.refl _ _⟩
    · go_enter Try.func4, Try.ntmps4
      go_wp2_with (go_at_call 14; go_in)
      go_ret
      exact ⟨rfl, Below.refl _ _⟩

theorem own : ownKnob Try.prog.godebug = none := by kernel_rfl
theorem laidOut : laidOutB Try.prog = true := by kernel_rfl

/-- WHAT THE WALK IS TOLD OF A SLICE OF INTEGERS THAT CAME IN: it is nil; or it leads to a row of 'cap' cells, the numbers 'zs' (the first 'len' are its elements, the rest its spare room), each fitting its kind. -/
def IsRow (k : IntKind) (w : World) (a : Option Addr) (len cap : Nat) (zs : List Int) : Prop :=
  (a = none ∧ len = 0 ∧ cap = 0 ∧ zs = []) ∨
  ∃ x, a = some x ∧ len ≤ cap ∧ cap ≤ maxLen ∧ zs.length = cap ∧ (∀ i, i < zs.length → w.cell? (x.add i) = some (.int k (zs.getD i 0))) ∧ ∀ n ∈ zs, (Lit.int k n).wf = true

/-! ### STEP 1: THE WALK: the Go text returns true, AND WRITES NOTHING THAT WAS THERE: 'Below w.heap.size w w'' (Derived/Below.lean: '.refl', '.alloc', '.drew', '.setCell' at a new block, '.trans'). Open each 'IsRow' by 'rcases' AHEAD of 'go_enter'; part every test ahead of the walk. -/
theorem walk (a0 : Option Addr) (len0 cap0 : Nat) (z0 : List Int) (a1 : Int) (a2 : Int) (a3 : Int) (w : World) (w0 : IsRow .i64 w a0 len0 cap0 z0) (w1 : (Lit.int .i64 a1).wf = true) (w2 : (Lit.int .u64 a2).wf = true) (w3 : (Lit.int .u64 a3).wf = true) :
    Calls Try.prog 4 #[.slice a0 len0 cap0, .int .i64 a1, .int .u64 a2, .int .u64 a3] w fun e w' => e = .returned (.bool true) ∧ Below w.heap.size w w' := by
  obtain ⟨hl, ha, hr, _⟩ := row_of w0
  have b2 := bounds_u64 w2
  have b3 := bounds_u64 w3
  exact top4 a0 len0 cap0 _ a1 a2 a3 w hl ha hr b2.1 b3.1 b3.2

/-! ### THE ROW's STEP: WRITTEN OUT: LEAVE IT -/
set_option maxRecDepth 100000 in
theorem lifted (os : Os) (started : os.Started) (H : Type) (enc : TypeId × Value → H) :
    ReturnsInHanded {} Try.checked os 4 .any (Rows.fnAfterReplaysLatestHeldSpec.pre6 enc Try.prog Try.f4 Rows.fnAfterReplaysLatestHeldRow.domain false) (Rows.fnAfterReplaysLatestHeldSpec.post enc Try.prog Try.f4 false true false false) := by
  refine returnsInHanded_of_change (C := Try.checked) own started (by kernel_rfl) Try.func4
    (ChangeSpec.witness6 (enc := enc) (C := Try.checked) false ⟨#[], #[.slice none 0 0, .int .i64 0, .int .u64 0, .int .u64 0], []⟩ 8 (by kernel_rfl) (by kernel_rfl) (by kernel_rfl) (by kernel_rfl)) ?_
  intro W base args ds gs before hval0 hW hcnd _
  have hval : ∀ (j : Nat) t v, Try.f4.params[j]? = some t → args[j]? = some v → Value.okWide Try.prog W .any base t v := hval0
  have hW' := hW
  obtain ⟨p, q, hA0, hV, rfl, hfz, hnd⟩ := hW
  have hA : DataW.TrodAll enc Try.prog W 0 (fun _ => true) true Try.f4.params.toList args.toList ds p := hA0
  rw [Try.params4] at hA hval
  obtain ⟨v0, vs0, d0, ds0, p0, q0, hargs, rfl, rfl, h0, r0⟩ := trodAll_cons hA
  obtain ⟨v1, vs1, d1, ds1, p1, q1, rfl, rfl, rfl, h1, r1⟩ := trodAll_cons r0
  obtain ⟨v2, vs2, d2, ds2, p2, q2, rfl, rfl, rfl, h2, r2⟩ := trodAll_cons r1
  obtain ⟨v3, vs3, d3, ds3, p3, q3, rfl, rfl, rfl, h3, r3⟩ := trodAll_cons r2
  obtain ⟨rfl, rfl, rfl⟩ := trodAll_nil r3
  obtain rfl : args = #[v0, v1, v2, v3] := by cases args; simp_all
  obtain ⟨rfl, rfl⟩ := trodVars_none hV
  obtain ⟨a0, len0, cap0, rfl⟩ := okWide_slice Try.underlying22 (hval 0 22 v0 rfl rfl)
  have k0 := h0
  have lt0 : ∀ x ∈ p0, x.block < W.heap.size := by obtain ⟨m, hm⟩ := k0; exact DataW.trod_lt m _ _ _ hm
  obtain ⟨z0, w0⟩ : ∃ zs, IsRow .i64 W a0 len0 cap0 zs := by
    obtain ⟨fuel, hf⟩ := h0
    rcases open_ints Try.underlying22 Try.underlying3 (by kernel_rfl) hf with ⟨hcs, _⟩ | ⟨x, l, c, zs, hcs, _, hl, hm, hz, _, hcell, hwz⟩
    · simp [Value.cells] at hcs
      obtain ⟨rfl, rfl, rfl⟩ := hcs
      exact ⟨[], .inl ⟨rfl, rfl, rfl, rfl⟩⟩
    · simp [Value.cells] at hcs
      obtain ⟨rfl, rfl, rfl⟩ := hcs
      exact ⟨zs, .inr ⟨_, rfl, hl, hm, by simpa using hz, hcell, hwz⟩⟩
  obtain ⟨a1, rfl, rfl, rfl, w1⟩ := open_int Try.underlying3 (hval 1 3 v1 rfl rfl) h1
  obtain ⟨a2, rfl, rfl, rfl, w2⟩ := open_int Try.underlying26 (hval 2 26 v2 rfl rfl) h2
  obtain ⟨a3, rfl, rfl, rfl, w3⟩ := open_int Try.underlying26 (hval 3 26 v3 rfl rfl) h3
  clear hA0 hval0
  refine (walk a0 len0 cap0 z0 a1 a2 a3 W w0 w1 w2 w3).mono fun e W' ⟨he, bel⟩ => ?_
  subst he
  exact ⟨_, rfl, _, _, _, [], _, [], hW', trodAll_mk1 (shut_bool Try.underlying4 _), (trodAll_cons_mk (Below.trod laidOut (by kernel_rfl) (of_decide_eq_true (by kernel_rfl)) k0 bel lt0) (trodAll_cons_mk (shut_int Try.underlying3 w1) (trodAll_cons_mk (shut_int Try.underlying26 w2) (trodAll_cons_mk (shut_int Try.underlying26 w3) trodAll_mk0)))), rfl, bel.frame _, fun h => by cases h⟩

theorem over : Rows.fnAfterReplaysLatestHeldRow.holds Try.pinned (OpenSpec.ofChange Rows.fnAfterReplaysLatestHeldSpec) :=
  OpenClaim.holds_of_wide 4 Try.f4 rfl rfl rfl rfl rfl rfl rfl ⟨rfl, rfl, rfl, rfl, rfl⟩ rfl rfl rfl rfl rfl (by kernel_rfl) Try.func4 (by kernel_rfl)
    (of_decide_eq_true (by kernel_rfl)) (by unfold Func.isWrapper; first | (rw [if_pos (by decide +kernel)]; kernel_rfl) | (rw [if_neg (by decide +kernel)]; exact ⟨rfl, rfl⟩))
    (fun os started H enc _ => lifted os started H enc)

/-- ████ THE STATEMENT ████ -/
theorem proved : Rows.FnAfterReplaysLatestHeldSaid := over
#print axioms proved
end Go.Proofs.Qxb6618173a.fnAfterReplaysLatestHeld
