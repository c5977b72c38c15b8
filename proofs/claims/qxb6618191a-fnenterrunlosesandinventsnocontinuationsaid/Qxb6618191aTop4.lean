/-
  FnEnterRunLosesAndInventsNoContinuation (function 4): the walk.
-/
import Derived.Test.Qxb6618191aEnter3
namespace Go.Proofs.Qxb6618191a
open Go.RowKit

theorem wpList_app22 {ops : Array Oper} {rest : List Oper} {o : Oper} {a : Act} {Q : Exit → Act → World → Prop} {w : World} (hgd : o.guard = none) (s x : Operand)
    (ho : o.op = .call { callee := .builtin .append, args := #[s, x], argTypes := #[22, 22] }) {v u v' : Value} {w' : World} (hs : a.eval s = v) (hx : a.eval x = u)
    (hty : o.type = 22) (hrun : (Builtin.append_ #[22, 22] 22 #[v, u]).run Try.prog w = .ok v' w') (h : wpList Try.prog ops Q rest (a.put o.dst v') w') : wpList Try.prog ops Q (o :: rest) a w := by
  refine wpList_plain hgd fun K hK => ?_
  unfold Oper.wp
  simp only [execOp, ho, resolve, invoke, builtin]
  simp [hs, hx, hty, hrun, Result.andThen]
  exact hK _ _ h

theorem entered_first (w : World) (c : Nat) (pos : Int) (hc : c ≤ 1000000) : ∃ a' cap' w', (Builtin.append_ #[22, 22] 22 #[.slice (some ⟨w.heap.size, 0, none⟩) 0 c, .slice (some ⟨w.heap.size + 1, 0, none⟩) 1 1]).run Try.prog ((w.alloc (.cells (madeCells #[.int .i64 0] c) 3)).alloc (.cells #[.int .i64 pos] 3)) = .ok (.slice a' 1 cap') w' ∧
    w'.ownsRow w.heap.size 3 1 (.slice a' 1 cap') 1 ([pos].map (Value.int .i64)) ∧ Below w.heap.size w w' := by
  have hb : Below w.heap.size w ((w.alloc (.cells (madeCells #[.int .i64 0] c) 3)).alloc (.cells #[.int .i64 pos] 3)) := ((Below.refl _ _).alloc (Nat.le_refl _) _).alloc (by simp) _
  obtain ⟨a', cap', w', h1, h2, h3⟩ := app_ints ((owns_room w c w.heap.size (Nat.le_refl _) hc).alloc (.cells #[.int .i64 pos] 3)) (some ⟨w.heap.size + 1, 0, none⟩) 1 1 [pos] rfl
    (.inr ⟨w.heap.size + 1, 0, rfl, fun i hi => by
      obtain rfl : i = 0 := by simpa using hi
      rw [Nat.zero_add, cell_of_heap (new_two w _ _)]
      rfl⟩) (fun h => by cases h) (by omega) (size_two _ _ _) 22
  exact ⟨a', cap', w', h1, h2, hb.trans h3⟩

theorem entered_all {w : World} {base : Nat} {a : Option Addr} {cap : Nat} {pos : Int} (ho : w.ownsRow base 3 1 (.slice a 1 cap) 1 ([pos].map (Value.int .i64))) (src : Option Addr) (k cM c : Nat) (M : List Int) (hM : M.length = k) (hr : Row w src M) (h0 : src = none → k = 0 ∧ cM = 0) (hk : k + 1 = c) (hc : c ≤ 1000000) (hb : base ≤ w.heap.size) :
    ∃ a' cap' w', (Builtin.append_ #[22, 22] 22 #[.slice a 1 cap, .slice src k cM]).run Try.prog w = .ok (.slice a' c cap') w' ∧ Row w' a' (pos :: M) ∧ Below base w w' := by
  obtain ⟨a', cap', w', h1, h2, h3⟩ := app_ints ho src k cM M hM hr h0 (by omega) hb 22
  rw [show 1 + k = c by omega] at h1 h2
  exact ⟨a', cap', w', h1, owns_row h2, h3⟩

theorem flag_start {held of_ ol : Int} {hl : Bool} {F L : List Int} {hd n : Nat} (hF : F.length = n) (hL : L.length = n) (hs : shapeP held hl n hd) : (hl || decide (2 ≤ (absR held of_ ol F L hd).length)) = hl := by
  cases hl
  · have h1 := absR_held (of_ := of_) (ol := ol) hF hL hs
    obtain ⟨_, _, _, h4, h5, h6⟩ := hs
    have h7 := h4 rfl
    have h8 : ¬ 2 ≤ (absR held of_ ol F L hd).length := by
      by_cases h0 : held = 0
      · omega
      · have := h6 h0; omega
    rw [decide_eq_false h8]
    rfl
  · rfl

theorem shape4 {held : Int} {hl hl2 : Bool} {n ng n2 hd : Nat} (hs : shapeP held hl n hd) (hf : (hl || decide (2 ≤ ng)) = hl2) (h1 : 1 ≤ ng) (h2 : n2 = hd + ng - 1) : shapeP ng hl2 n2 hd := by
  refine ⟨by omega, by omega, by omega, fun h => ?_, fun h => by omega, fun h => by omega⟩
  rw [h] at hf
  cases hl
  · have h3 := hs.2.2.2.1 rfl
    rw [Bool.false_or, decide_eq_false_iff_not] at hf
    omega
  · cases hf

/-- What stands while the law looks at what came out. -/
structure Std (w1 w : World) (B2 B4 : Nat) (a5 : Option Addr) (ng c5 : Nat) (G : List (Int × Int)) (aa : Option Addr) (na ca : Nat) (A : List (Int × Int)) (af : Option Addr) (E : List Int) : Prop where
  oG : w.ownsRow B2 35 2 (.slice a5 ng c5) ng (rcells G)
  oA : w.ownsRow B4 35 2 (.slice aa na ca) na (rcells A)
  rE : Row w af E
  below : Below w1.heap.size w1 w
  lG : G.length = ng
  lA : A.length = na

theorem Std.draw {w1 w : World} {B2 B4 : Nat} {a5 : Option Addr} {ng c5 : Nat} {G : List (Int × Int)} {aa : Option Addr} {na ca : Nat} {A : List (Int × Int)} {af : Option Addr} {E : List Int} (h : Std w1 w B2 B4 a5 ng c5 G aa na ca A af E) (q : Nat) : Std w1 (w.drewN q) B2 B4 a5 ng c5 G aa na ca A af E :=
  ⟨h.oG, h.oA, h.rE, below_draw h.below q, h.lG, h.lA⟩

theorem inSorted_yes (a : Option Addr) (n ca : Nat) (x : Int) (xs : List Int) (w : World) (hn : xs.length = n) (hn6 : n ≤ 1000000) (hr : Row w a xs) (hi : Inc xs) (hx : x ∈ xs) :
    Calls Try.prog 20 #[.slice a n ca, .int .i64 x] w fun e w' => e = .returned (.bool true) ∧ ∃ q, w' = w.drewN q := by
  refine (inSorted_any a n ca x xs w hn hn6 hr hi).mono ?_
  rintro e w' ⟨r, rfl, hr, q, rfl⟩
  obtain rfl : r = true := hr.2 hx
  exact ⟨rfl, q, rfl⟩

theorem inSorted_quiet (a : Option Addr) (n ca : Nat) (x : Int) (xs : List Int) (w : World) (k j : Nat) (hn : xs.length = n) (hn6 : n ≤ 1000000) (hr : Row w a xs) (hi : Inc xs) (hx : x ∈ xs) :
    Calls Try.prog 20 #[.slice a n ca, .int .i64 x] (w.drewN (k + j)) fun e w'' => e = .returned (.bool true) ∧ ∃ m, w'' = w.drewN (k + m) := by
  refine (inSorted_yes a n ca x xs (w.drewN (k + j)) hn hn6 hr hi hx).mono ?_
  rintro e w' ⟨rfl, q, rfl⟩
  exact ⟨rfl, j + q, by rw [drew2, Nat.add_assoc]⟩

set_option maxRecDepth 100000 in
set_option maxHeartbeats 4000000 in
theorem top4_big (held of_ ol : Int) (hl : Bool) (aF aL aM : Option Addr) (n m k cF cL cM : Nat) (head pos span : Int) (w : World) (hn9 : n ≤ 9223372036854775807) (hm9 : m ≤ 9223372036854775807) (hk9 : k ≤ 9223372036854775807)
    (hbig : ¬ (n ≤ 65536 ∧ m ≤ 65536 ∧ k ≤ 65536 ∧ n + m + k ≤ 131072)) :
    Calls Try.prog 4 #[.int .i64 held, .int .i64 of_, .int .i64 ol, .bool hl, .slice aF n cF, .slice aL m cL, .int .i64 head, .int .i64 pos, .slice aM k cM, .int .i64 span] w fun e w' => e = .returned (.bool true) ∧ Below w.heap.size w w' := by
  have HBIG : Hid (¬ (n ≤ 65536 ∧ m ≤ 65536 ∧ k ≤ 65536 ∧ n + m + k ≤ 131072)) := hbig
  clear hbig
  go_enter Try.func4, Try.ntmps4
  go_wp2_with fail
  refine (bytes16 held of_ ol hl aF aL aM n m k cF cL cM head pos span w hn9 hm9 hk9).mono ?_
  rintro e w1 ⟨r, rfl, rfl⟩
  cases r
  · go_wp2
    go_ret
    exact ⟨rfl, Below.refl _ _⟩
  · by_cases h1 : 65536 < (n : Int)
    · go_wp2
      go_ret
      exact ⟨rfl, Below.refl _ _⟩
    · have d1 : decide (65536 < (n : Int)) = false := by simp; omega
      by_cases h2 : 65536 < (m : Int)
      · go_wp2
        go_ret
        exact ⟨rfl, Below.refl _ _⟩
      · have d2 : decide (65536 < (m : Int)) = false := by simp; omega
        by_cases h3 : 65536 < (k : Int)
        · go_wp2
          go_ret
          exact ⟨rfl, Below.refl _ _⟩
        · have d3 : decide (65536 < (k : Int)) = false := by simp; omega
          have h4 : 131072 < (n : Int) + (m : Int) + (k : Int) := by have := HBIG.out; omega
          go_wp2
          go_ret
          exact ⟨rfl, Below.refl _ _⟩

set_option maxRecDepth 100000 in
set_option maxHeartbeats 16000000 in
theorem top4 (held of_ ol : Int) (hl : Bool) (aF aL aM : Option Addr) (n m k cF cL cM : Nat) (head pos span : Int) (F L M : List Int) (w : World) (hF : F.length = n) (hL : L.length = m) (hM : M.length = k) (haF : aF = none → n = 0) (haL : aL = none → m = 0) (haM : aM = none → k = 0 ∧ cM = 0) (rF : Row w aF F) (rL : Row w aL L) (rM : Row w aM M)
    (hh : held ≤ 9223372036854775807) (hn6 : n ≤ 65536) (hm6 : m ≤ 65536) (hk6 : k ≤ 65536) (hs6 : n + m + k ≤ 131072) :
    Calls Try.prog 4 #[.int .i64 held, .int .i64 of_, .int .i64 ol, .bool hl, .slice aF n cF, .slice aL m cL, .int .i64 head, .int .i64 pos, .slice aM k cM, .int .i64 span] w fun e w' => e = .returned (.bool true) ∧ Below w.heap.size w w' := by
  have HF : Hid (F.length = n) := hF
  have HL : Hid (L.length = m) := hL
  have HM : Hid (M.length = k) := hM
  have HN : Hid ((aF = none → n = 0) ∧ (aL = none → m = 0)) := ⟨haF, haL⟩
  have HNM : Hid (aM = none → k = 0 ∧ cM = 0) := haM
  have HR : Hid (Row w aF F ∧ Row w aL L ∧ Row w aM M) := ⟨rF, rL, rM⟩
  clear hF hL hM haF haL haM rF rL rM
  have hd0 : decide (65536 < (n : Int)) = false := by simp; omega
  have hd1 : decide (65536 < (m : Int)) = false := by simp; omega
  have hd2 : decide (65536 < (k : Int)) = false := by simp; omega
  have hd3 : decide (131072 < (n : Int) + (m : Int) + (k : Int)) = false := by simp; omega
  go_enter Try.func4, Try.ntmps4
  go_wp2_with fail
  refine (bytes16 held of_ ol hl aF aL aM n m k cF cL cM head pos span w (by omega) (by omega) (by omega)).mono ?_
  rintro e w1 ⟨r, rfl, rfl⟩
  cases r
  · go_wp2
    go_ret
    exact ⟨rfl, Below.refl _ _⟩
  · go_wp2_with fail
    refine (enterFits_any held of_ ol hl aF aL aM n m k cF cL cM head pos span F L M w1 HF.out HL.out HM.out hn6 hm6 hk6 hh HR.out.1 HR.out.2.1 HR.out.2.2).mono ?_
    rintro e w2 ⟨r, rfl, hr, hb2⟩
    cases r
    · have HB2 : Hid (Below w1.heap.size w1 w2) := hb2
      clear hb2 hr
      go_wp2
      go_ret
      exact ⟨rfl, HB2.out⟩
    · obtain ⟨low, hfit⟩ := hr rfl
      have hlen := hfit.len
      have hsh := hfit.shape
      have hfac := facts_of hfit
      have hs1 := hfit.s1
      have hs2 := hfit.s2
      have hnm : n = m := by have := HF.out; have := HL.out; omega
      subst hnm
      rw [HF.out] at hsh
      obtain ⟨hd, rfl⟩ : ∃ hd : Nat, head = (hd : Int) := ⟨head.toNat, by have := hsh.2.1; omega⟩
      rw [Int.toNat_natCast] at hfac
      have hhd : hd ≤ n := by have := hsh.2.2.1; omega
      obtain ⟨A, hA⟩ : ∃ A, absR held of_ ol F L hd = A := ⟨_, rfl⟩
      rw [hA] at hfac
      have hAl : A.length ≤ n + 1 := by rw [← hA]; exact absR_len HF.out HL.out
      have HA : Hid (absR held of_ ol F L hd = A) := hA
      have HSH : Hid (shapeP held hl n hd) := hsh
      have HFAC : Hid (Facts span A (pos :: M)) := hfac
      have HB2 : Hid (Below w1.heap.size w1 w2) := hb2
      have HR2 : Hid (Row w2 aF F ∧ Row w2 aL L ∧ Row w2 aM M) := ⟨HR.out.1.below hb2, HR.out.2.1.below hb2, HR.out.2.2.below hb2⟩
      have hnil : ∀ (w : World) (a : Option Addr) (n c n' c' : Nat), (binOp .neq 22 (.slice a n c) (.slice none n' c')).run Try.prog w = .ok (.bool (!a.isNone)) w := fun w a n c n' c' => run_neq_slice_nil_any w 22 3 a n c n' c' Try.underlying22
      have hmk := run_make_row' (P := Try.prog) 22 3 (.int .i64 0) 8 Try.underlying22 info3 rfl .i64 .i64 n
      have hmk2 := hmk (by omega) (by omega)
      clear hmk hr hb2 hlen hsh hfac hfit HR hd0 hd1 hd2 hd3 hA
      go_upto_if 88 with fail
      go_cut [4, 21] from 89 to 95 (fun s _ wx => ∃ a' c', s = .slice a' n c' ∧ Hid (Row wx a' F) ∧ Hid (Below w2.heap.size w2 wx))
      case first =>
        cases aF with
        | none =>
          go_wp2
          go_meet
          case rel => exact ⟨none, cF, rfl, HR2.out.1, Below.refl _ _⟩
        | some x =>
          obtain ⟨wx, hcp, hr2, hb2⟩ := copied w2 x n cF F 3 HF.out HR2.out.1
          have HRx : Hid (Row wx (some ⟨w2.heap.size, 0, none⟩) F) := hr2
          have HBx : Hid (Below w2.heap.size w2 wx) := hb2
          clear hr2 hb2
          go_wp2
          go_meet
          case rel => exact ⟨_, _, rfl, HRx, HBx⟩
      case rest =>
        obtain ⟨a1, c1, rfl, HR3, HBc⟩ := hcut
        have HL3 : Hid (Row wc aL L ∧ Row wc aM M) := ⟨HR2.out.2.1.below HBc.out, HR2.out.2.2.below HBc.out⟩
        have HB3 : Hid (Below w1.heap.size w1 wc) := HB2.out.trans (HBc.out.mono HB2.out.size)
        clear HR2 HBc HB2
        generalize wc = w3 at *
        go_upto_if 97 with fail
        go_cut [5, 22] from 98 to 104 (fun s _ wx => ∃ a' c', s = .slice a' n c' ∧ Hid (Row wx a' L) ∧ Hid (Below w3.heap.size w3 wx))
        case first =>
          cases aL with
          | none =>
            go_wp2
            go_meet
            case rel => exact ⟨none, cL, rfl, HL3.out.1, Below.refl _ _⟩
          | some x =>
            obtain ⟨wx, hcp, hr2, hb2⟩ := copied w3 x n cL L 3 HL.out HL3.out.1
            have HRx : Hid (Row wx (some ⟨w3.heap.size, 0, none⟩) L) := hr2
            have HBx : Hid (Below w3.heap.size w3 wx) := hb2
            clear hr2 hb2
            go_wp2
            go_meet
            case rel => exact ⟨_, _, rfl, HRx, HBx⟩
        case rest =>
          obtain ⟨a2, c2, rfl, HL4, HBc⟩ := hcut
          have HM4 : Hid (Row wc aM M) := HL3.out.2.below HBc.out
          have HR4 : Hid (Row wc a1 F) := HR3.out.below HBc.out
          have HB4 : Hid (Below w1.heap.size w1 wc) := HB3.out.trans (HBc.out.mono HB3.out.size)
          clear HR3 HL3 HBc HB3 hnil hmk2 HN
          generalize wc = w4 at *
          go_wp2_with fail
          refine (abs_any held of_ ol a1 a2 n c1 c2 hd F L w4 HF.out HL.out (by omega) hhd HR4.out HL4.out).mono ?_
          rintro e w5 ⟨aa, na, ca, rfl, hna, hoa, hb5⟩
          rw [HA.out] at hna hoa
          have HOA : Hid (w5.ownsRow w4.heap.size 35 2 (.slice aa na ca) na (rcells A)) := hoa
          have HNA : Hid (na = A.length) := hna
          have HR5 : Hid (Row w5 a1 F ∧ Row w5 a2 L ∧ Row w5 aM M) := ⟨HR4.out.below hb5, HL4.out.below hb5, HM4.out.below hb5⟩
          have HB5 : Hid (Below w1.heap.size w1 w5) := HB4.out.trans (hb5.mono HB4.out.size)
          have hna6 : na ≤ 65537 := by omega
          have hnan : na ≤ n + 1 := by omega
          clear hna hoa hb5 HR4 HL4 HM4 HB4 hAl
          generalize w4.heap.size = B4 at *
          obtain ⟨c, hc⟩ : ∃ c, k + 1 = c := ⟨_, rfl⟩
          have hcap : (k : Int) + 1 = (c : Int) := by omega
          have hmk : ∀ w : World, (Instr.makeSlice 22 (.int .i64 0) (.int .i64 (c : Int))).run Try.prog w = .ok (.slice (some ⟨w.heap.size, 0, none⟩) 0 c) (w.alloc (.cells (madeCells #[.int .i64 0] c) 3)) := fun w => made_room c w (by omega)
          obtain ⟨ae, ce, w6, hap, hoe, hb6⟩ := entered_first w5 c pos (by omega)
          have HM6 : Hid (Row w6 aM M) := HR5.out.2.2.below hb6
          obtain ⟨af, cf, w7, hap2, hre, hb7⟩ := entered_all hoe aM k cM c M HM.out HM6.out HNM.out hc (by omega) hb6.size
          have hb57 : Below w5.heap.size w5 w7 := hb6.trans hb7
          have HE7 : Hid (Row w7 af (pos :: M)) := hre
          have HOA7 : Hid (w7.ownsRow B4 35 2 (.slice aa na ca) na (rcells A)) := owns_below hb57 HOA.out
          have HR7 : Hid (Row w7 a1 F ∧ Row w7 a2 L ∧ Row w7 aM M) := ⟨HR5.out.1.below hb57, HR5.out.2.1.below hb57, HR5.out.2.2.below hb57⟩
          have HB7 : Hid (Below w1.heap.size w1 w7) := HB5.out.trans (hb57.mono HB5.out.size)
          have HC : Hid (k + 1 = c) := hc
          clear hoe hb6 HM6 hre hb7 hb57 HOA HR5 HB5 HNM hc
          go_wp2_with (at_builtin; (have hstop : True := trivial); revert hstop)
          intro hstop
          clear hstop
          refine wpList_app22 (s := .tmp 116) (x := .tmp 118) (hrun := hap) rfl rfl rfl rfl rfl ?_
          clear hap hmk hcap
          go_wp2_with (at_builtin; (have hstop : True := trivial); revert hstop)
          intro hstop
          clear hstop
          refine wpList_app22 (s := .tmp 120) (x := .tmp 121) (hrun := hap2) rfl rfl rfl rfl rfl ?_
          clear hap2
          go_wp2_with fail
          refine (new_any held of_ ol hl a1 a2 n c1 c2 hd F L w7 HF.out HL.out hn6 HR7.out.1 HR7.out.2.1 (fun h => by have := HSH.out.2.2.2.1 h; omega)).mono ?_
          rintro e w8 ⟨rfl, he8, hb8⟩
          obtain ⟨B, hB⟩ : ∃ B, w7.heap.size = B := ⟨_, rfl⟩
          rw [hB] at he8 hb8 ⊢
          obtain ⟨pre, hpre⟩ : ∃ P, (F.zip L).take hd = P := ⟨_, rfl⟩
          have hes : EntS B w8 B (hl || decide (2 ≤ (enterL span A ((pos :: M).take 0)).length)) pre (enterL span A ((pos :: M).take 0)) := by
            show EntS B w8 B (hl || decide (2 ≤ A.length)) pre A
            rw [← hpre, ← HA.out, flag_start HF.out HL.out HSH.out]
            exact entS_start HF.out HL.out HSH.out he8
          have hpl : pre.length = hd := by rw [← hpre]; exact pre_len HF.out HL.out hhd
          have HP : Hid ((F.zip L).take hd = pre ∧ pre.length = hd) := ⟨hpre, hpl⟩
          have HBB : Hid (w7.heap.size = B) := hB
          have HB8 : Hid (Below B w7 w8) := hb8
          have HLEN : Hid (pre.length + A.length + (pos :: M).length ≤ 400000) := by
            show pre.length + A.length + (pos :: M).length ≤ 400000
            have := HNA.out; have := HM.out
            rw [hpl, List.length_cons]; omega
          have HC0 : Hid (Calls Try.prog 18 #[.pointer (some ⟨B, 0, none⟩), .int .i64 pos, .int .i64 span] w8 fun x w' => x = .returned (.tuple #[]) ∧
              (EntS B w' B (hl || decide (2 ≤ (enterL span A ((pos :: M).take (0 + 1))).length)) pre (enterL span A ((pos :: M).take (0 + 1))) ∧ Below B w8 w')) := enter_nth B B span hl pre A (pos :: M) 0 w8 HFAC.out (by simp) HLEN.out hes
          clear he8 hb8 hes hpre hpl hB
          go_wp2_with fail
          refine (HC0.out).mono ?_
          rintro e w9 ⟨rfl, hes9, hb9⟩
          have HE9 : Hid (EntS B w9 B (hl || decide (2 ≤ (enterL span A ((pos :: M).take (0 + 1))).length)) pre (enterL span A ((pos :: M).take (0 + 1)))) := hes9
          have HB9 : Hid (Below B w7 w9) := HB8.out.trans hb9
          clear HC0 hes9 hb9 HB8
          go_wp2_with fail
          go_loopw [26] (fun i wr => ∃ j : Nat, j ≤ k ∧ i = .int .i64 j ∧ Hid (EntS B wr B (hl || decide (2 ≤ (enterL span A ((pos :: M).take (j + 1))).length)) pre (enterL span A ((pos :: M).take (j + 1)))) ∧ Hid (Below B w7 wr)) (fun i _ => k - (intOf i).toNat)
          case atStart => exact ⟨0, by omega, rfl, HE9, HB9⟩
          case round =>
            obtain ⟨j, hjk, rfl, HEJ, HBJ⟩ := hrel
            clear HE9 HB9
            by_cases hlt : j < k
            · have hrow : Row wr aM M := HR7.out.2.2.below (by rw [HBB.out]; exact HBJ.out)
              obtain ⟨b, o, rfl, hcl⟩ := hrow.at HM.out hlt
              have b0 : (j : Int) < (k : Int) := by omega
              have HC1 : Hid (Calls Try.prog 18 #[.pointer (some ⟨B, 0, none⟩), .int .i64 (M[j]?.getD 0), .int .i64 span] wr fun x w' => x = .returned (.tuple #[]) ∧
                  (EntS B w' B (hl || decide (2 ≤ (enterL span A ((pos :: M).take (j + 1 + 1))).length)) pre (enterL span A ((pos :: M).take (j + 1 + 1))) ∧ Below B wr w')) :=
                enter_nth B B span hl pre A (pos :: M) (j + 1) wr HFAC.out (by have := HM.out; rw [List.length_cons]; omega) HLEN.out HEJ.out
              clear hrow
              go_wp2_with fail
              refine (HC1.out).mono ?_
              rintro e w10 ⟨rfl, hes10, hb10⟩
              have HE10 : Hid (EntS B w10 B (hl || decide (2 ≤ (enterL span A ((pos :: M).take (j + 1 + 1))).length)) pre (enterL span A ((pos :: M).take (j + 1 + 1)))) := hes10
              have HB10 : Hid (Below B w7 w10) := HBJ.out.trans hb10
              clear HC1 hes10 hb10
              go_wp2
              go_roundw
              case rel => exact ⟨j + 1, by omega, by go_num, HE10, HB10⟩
              case measure => simp [intOf]; omega
            · obtain rfl : j = k := by omega
              obtain ⟨G, hG⟩ : ∃ G, enterL span A (pos :: M) = G := ⟨_, rfl⟩
              have hes := HEJ.out
              rw [List.take_of_length_le (by rw [List.length_cons, HM.out]; exact Nat.le_refl _), hG] at hes
              obtain ⟨t, hgot⟩ := HFAC.out.got
              have hcov := HFAC.out.cov
              have hpg := HFAC.out.posG
              rw [hG] at hgot hcov hpg
              have hgl := enterL_len span (pos :: M) A
              rw [hG, List.length_cons, HM.out] at hgl
              have hg1 : 1 ≤ G.length := hgot.some (by simp)
              obtain ⟨of2, ol2, he10, habs, hrl⟩ := entS_end HP.out.2 hg1 hes
              obtain ⟨rs2, hrs2⟩ : ∃ R, pre ++ G.tail = R := ⟨_, rfl⟩
              rw [hrs2] at he10 habs hrl
              obtain ⟨hl2, hhl2⟩ : ∃ x, (hl || decide (2 ≤ G.length)) = x := ⟨_, rfl⟩
              rw [hhl2] at he10
              obtain ⟨ng, hng⟩ : ∃ x, G.length = x := ⟨_, rfl⟩
              rw [hng] at he10 habs hrl hgl hg1 hhl2
              have hAG : na ≤ ng := by have := hgot.len; have := HNA.out; omega
              have HGOT : Hid (GotI span A (pos :: M) G t) := hgot
              have HCOV : Hid (covR span G = covX span (covR span A) (pos :: M)) := hcov
              have HPG : Hid (PosR G) := hpg
              have HRS : Hid (pre ++ G.tail = rs2) := hrs2
              have HRL : Hid (rs2.length = hd + ng - 1) := hrl
              have HABS : Hid (absR (ng : Int) of2 ol2 (fsL rs2) (lsL rs2) hd = G) := habs
              have HNG : Hid (G.length = ng) := hng
              have HFL : Hid ((hl || decide (2 ≤ ng)) = hl2) := hhl2
              have hng6 : ng ≤ 131072 := by have := HNA.out; omega
              have hnd : hd + ng ≤ 200000 := by omega
              have HE10 : Hid (Ent B wr B (ng : Int) of2 ol2 hl2 rs2 hd) := he10
              clear hes hgot hcov hpg hrs2 hrl habs hng hhl2 he10 HEJ hgl hG
              generalize wr = w10 at *
              go_wp2_with fail
              refine (read_any B B (ng : Int) of2 ol2 hl2 rs2 hd w10 (by have := HRL.out; omega) HE10.out).mono ?_
              rintro e w11 ⟨a3, a4, n2, c3, c4, rfl, hn2, hr3, hr4, hb11⟩
              have HR11 : Hid (Row w11 a3 (fsL rs2) ∧ Row w11 a4 (lsL rs2)) := ⟨hr3, hr4⟩
              have HN2 : Hid (rs2.length = n2) := hn2.symm
              have HN2E : Hid (n2 = hd + ng - 1) := by show n2 = hd + ng - 1; rw [hn2]; exact HRL.out
              have hn2a : n2 ≤ 200000 := by have := HN2E.out; omega
              have hn2b : hd ≤ n2 := by have := HN2E.out; omega
              have hb711 : Below w7.heap.size w7 w11 := by rw [HBB.out]; exact HBJ.out.trans (hb11.mono (by rw [← HBB.out]; exact HBJ.out.size))
              have HOA11 : Hid (w11.ownsRow B4 35 2 (.slice aa na ca) na (rcells A)) := owns_below hb711 HOA7.out
              have HE11 : Hid (Row w11 af (pos :: M)) := HE7.out.below hb711
              have HR71 : Hid (Row w11 a1 F ∧ Row w11 a2 L) := ⟨HR7.out.1.below hb711, HR7.out.2.1.below hb711⟩
              have HB11 : Hid (Below w1.heap.size w1 w11) := HB7.out.trans (hb711.mono HB7.out.size)
              clear hn2 hr3 hr4 hb11 hb711 HR7 HE7 HOA7 HB7 HBJ HE10 HBB
              go_wp2_with fail
              refine (shape_wide ng hl2 n2 hd w11 (by omega) (by omega) (by omega)).mono ?_
              rintro e w12 ⟨r, rfl, hr, q, rfl⟩
              obtain rfl : r = true := hr.2 (shape4 HSH.out HFL.out hg1 HN2E.out)
              clear hr
              go_wp2_with fail
              refine (abs_any (ng : Int) of2 ol2 a3 a4 n2 c3 c4 hd (fsL rs2) (lsL rs2) (w11.drewN q) (by rw [fsL_len]; exact HN2.out) (by rw [lsL_len]; exact HN2.out) (by omega) (by omega) HR11.out.1 HR11.out.2).mono ?_
              rintro e w13 ⟨a5, n5, c5, rfl, hn5, ho5, hb13⟩
              rw [HABS.out] at hn5 ho5
              rw [HNG.out] at hn5
              subst hn5
              have hb : Below w11.heap.size w11 w13 := (below_draw (Below.refl _ _) q).trans hb13
              have HSTD : Hid (Std w1 w13 w11.heap.size B4 a5 n5 c5 G aa na ca A af (pos :: M)) := ⟨ho5, owns_below hb HOA11.out, HE11.out.below hb, HB11.out.trans (hb.mono HB11.out.size), HNG.out, HNA.out.symm⟩
              have HR13 : Hid (Row w13 a3 (fsL rs2) ∧ Row w13 a4 (lsL rs2) ∧ Row w13 a1 F ∧ Row w13 a2 L) := ⟨HR11.out.1.below hb, HR11.out.2.below hb, HR71.out.1.below hb, HR71.out.2.below hb⟩
              clear ho5 hb13 hb HR11 HR71 HOA11 HE11 HB11
              generalize w11.heap.size = B2 at *
              have hg0 : ((n5 : Int) == 0) = false := beq_eq_false_iff_ne.2 (by omega)
              go_wp2_with fail
              refine (ordered_any a5 n5 c5 B2 G w13 HNG.out (by omega) HSTD.out.oG).mono ?_
              rintro e w14 ⟨r, rfl, hr, q2, rfl⟩
              obtain rfl : r = true := hr.2 HGOT.out.ord
              clear hr
              have HSTD2 : Hid (Std w1 (w13.drewN q2) B2 B4 a5 n5 c5 G aa na ca A af (pos :: M)) := HSTD.out.draw q2
              have HR14 : Hid (Row (w13.drewN q2) a3 (fsL rs2) ∧ Row (w13.drewN q2) a4 (lsL rs2) ∧ Row (w13.drewN q2) a1 F ∧ Row (w13.drewN q2) a2 L) := HR13.out
              clear HSTD HR13
              generalize w13.drewN q2 = w14 at *
              go_upto_region 33 with fail
              go_cut [199] from 187 to 199 (fun c wx => c = .bool false ∧ wx = w14)
              case first =>
                cases hl
                · by_cases h2 : 2 ≤ n5
                  · obtain rfl : hl2 = true := by have := HFL.out; rw [decide_eq_true h2] at this; exact this.symm
                    have h2i : (2 : Int) ≤ (n5 : Int) := by omega
                    go_wp2
                    go_meet
                    case rel => exact ⟨rfl, rfl⟩
                  · obtain rfl : hl2 = false := by have := HFL.out; rw [decide_eq_false h2] at this; exact this.symm
                    have h2i : decide ((2 : Int) ≤ (n5 : Int)) = false := by simp; omega
                    go_wp2
                    go_meet
                    case rel => exact ⟨rfl, rfl⟩
                · obtain rfl : hl2 = true := HFL.out.symm
                  go_wp2
                  go_meet
                  case rel => exact ⟨rfl, rfl⟩
              case rest =>
                obtain ⟨rfl, rfl⟩ := hcut
                generalize wc = w15 at *
                go_wp2
                go_loopw [35] (fun i wr => ∃ x q : Nat, x ≤ hd ∧ i = .int .i64 x ∧ wr = w15.drewN q) (fun i _ => hd - (intOf i).toNat)
                case atStart => exact ⟨0, 0, by omega, rfl, rfl⟩
                case round =>
                  obtain ⟨x, q, hx, rfl, rfl⟩ := hrel
                  by_cases hlt : x < hd
                  · obtain ⟨b1, o1, rfl, e1⟩ := HR14.out.1.at ((fsL_len rs2).trans HN2.out) (show x < n2 by omega)
                    obtain ⟨b2, o2, rfl, e2⟩ := HR14.out.2.1.at ((lsL_len rs2).trans HN2.out) (show x < n2 by omega)
                    obtain ⟨b3, o3, rfl, e3⟩ := HR14.out.2.2.1.at HF.out (show x < n by omega)
                    obtain ⟨b4, o4, rfl, e4⟩ := HR14.out.2.2.2.at HL.out (show x < n by omega)
                    have hpa := pre_at HF.out HL.out hhd hlt G.tail
                    rw [HP.out.1, HRS.out] at hpa
                    rw [hpa.1] at e1
                    rw [hpa.2] at e2
                    obtain ⟨f, hf⟩ : ∃ z, F[x]?.getD 0 = z := ⟨_, rfl⟩
                    obtain ⟨l, hl'⟩ : ∃ z, L[x]?.getD 0 = z := ⟨_, rfl⟩
                    rw [hf] at e1 e3
                    rw [hl'] at e2 e4
                    have i0 : (x : Int) < (hd : Int) := by omega
                    have i1 : (x : Int) < (n2 : Int) := by omega
                    have i2 : (x : Int) < (n : Int) := by omega
                    clear hpa hf hl'
                    go_wp2
                    go_quiet (fail)
                    go_wp2
                    go_roundw
                    case rel => exact ⟨x + 1, _, by omega, by go_num, rfl⟩
                    case measure => simp [intOf]; omega
                  · obtain rfl : x = hd := by omega
                    clear HR14 HRS HP HN2 HABS HN2E HRL
                    go_upto_if 228 with fail
                    go_cut [228] from 229 to 242 (fun _ wx => ∃ q2 : Nat, wx = w15.drewN q2)
                    case first =>
                      obtain ⟨g, rfl, _, _, hcG, _⟩ := owns_at HSTD2.out.oG (by omega)
                      obtain ⟨x0, x1⟩ := run_cell HNG.out hcG (show 0 < n5 by omega)
                      rw [Nat.zero_mul] at x0 x1
                      have hne := neq35
                      have hgd := guard35
                      have p0 : (0 : Int) < (n5 : Int) := by omega
                      by_cases h0 : na = 0
                      · have hb0 : ((na : Int) == 0) = true := beq_iff_eq.2 (by omega)
                        have hz := HGOT.out.zero (by have := HNA.out; omega) (by rw [HNG.out]; omega)
                        rw [hz.1] at x0
                        rw [hz.2] at x1
                        have x0' : w15.cell? ⟨g, 0, none⟩ = some (.int .i64 pos) := x0
                        have x1' : w15.cell? ⟨g, 0 + 1, none⟩ = some (.int .i64 pos) := x1
                        clear hcG x0 x1 hz h0
                        go_wp2
                        go_meet
                        case rel => exact ⟨_, rfl⟩
                      · have hb0 : ((na : Int) == 0) = false := beq_eq_false_iff_ne.2 (by omega)
                        obtain ⟨g2, rfl, _, _, hcA, _⟩ := owns_at HSTD2.out.oA (by omega)
                        obtain ⟨y0, y1⟩ := run_cell HNA.out.symm hcA (show 0 < na by omega)
                        rw [Nat.zero_mul] at y0 y1
                        have p1 : (0 : Int) < (na : Int) := by omega
                        have hz := HGOT.out.head (by have := HNA.out; omega)
                        rw [hz.1] at x0
                        rw [hz.2] at x1
                        clear hcG hcA hz h0
                        go_wp2
                        go_quiet (fail)
                        go_wp2
                        go_meet
                        case rel => exact ⟨_, drew2 _ _ _⟩
                    case rest =>
                      obtain ⟨q2, rfl⟩ := hcut
                      have hlt0 : decide (n5 < na) = false := by simp; omega
                      go_wp2
                      go_loopw [37] (fun i wr => ∃ y q : Nat, 1 ≤ y ∧ y ≤ na + 1 ∧ i = .int .i64 y ∧ wr = w15.drewN q) (fun i _ => na - (intOf i).toNat)
                      case atStart => exact ⟨1, q2, by omega, by omega, rfl, rfl⟩
                      case round =>
                        obtain ⟨y, q3, hy1, hy2, rfl, rfl⟩ := hrel
                        by_cases hlt : y < na
                        · obtain ⟨g, rfl, _, _, hcG, _⟩ := owns_at HSTD2.out.oG (by omega)
                          obtain ⟨g2, rfl, _, _, hcA, _⟩ := owns_at HSTD2.out.oA (by omega)
                          obtain ⟨x0, x1⟩ := run_cell HNG.out hcG (show y < n5 by omega)
                          obtain ⟨y0, y1⟩ := run_cell HNA.out.symm hcA hlt
                          rw [HGOT.out.firsts y hy1 (by rw [← HNA.out]; exact hlt)] at x0
                          have p0 : (y : Int) < (n5 : Int) := by omega
                          have p1 : (y : Int) < (na : Int) := by omega
                          clear hcG hcA
                          by_cases hlt2 : y + 1 < na
                          · have p2 : (y : Int) < (na : Int) - 1 := by omega
                            rw [HGOT.out.lasts y hy1 (by rw [← HNA.out]; exact hlt2)] at x1
                            go_wp2
                            go_quiet (fail)
                            go_wp2
                            go_quiet (fail)
                            go_wp2
                            go_roundw
                            case rel => exact ⟨y + 1, _, by omega, by omega, by go_num, rfl⟩
                            case measure => simp [intOf]; omega
                          · have p2 : decide ((y : Int) < (na : Int) - 1) = false := by simp; omega
                            go_wp2
                            go_quiet (fail)
                            go_wp2
                            go_quiet (fail)
                            go_wp2
                            go_roundw
                            case rel => exact ⟨y + 1, _, by omega, by omega, by go_num, rfl⟩
                            case measure => simp [intOf]; omega
                        · have hd0 : decide ((y : Int) < (na : Int)) = false := by simp; omega
                          have HEL : Hid ((pos :: M).length = c) := by show (pos :: M).length = c; rw [List.length_cons, HM.out]; exact HC.out
                          have hc6 : c ≤ 1000000 := by have := HC.out; omega
                          go_upto_region 55 with fail
                          go_cut [307] from 280 to 307 (fun s wx => s = .bool false ∧ ∃ q2 : Nat, wx = w15.drewN q2)
                          case first =>
                            by_cases h2 : 2 ≤ na
                            · obtain ⟨g, rfl, _, _, hcG, _⟩ := owns_at HSTD2.out.oG (by omega)
                              obtain ⟨g2, rfl, _, _, hcA, _⟩ := owns_at HSTD2.out.oA (by omega)
                              obtain ⟨x0, x1⟩ := run_cell HNG.out hcG (show na - 1 < n5 by omega)
                              obtain ⟨y0, y1⟩ := run_cell HNA.out.symm hcA (show na - 1 < na by omega)
                              have p0 : (2 : Int) ≤ (na : Int) := by omega
                              have p1 : (0 : Int) ≤ (na : Int) - 1 := by omega
                              have p2 : (na : Int) - 1 < (n5 : Int) := by omega
                              have p3 : (na : Int) - 1 < (na : Int) := by omega
                              have p5 : (1 : Int) ≤ (na : Int) := by omega
                              have hwr : IntKind.i64.wrap ((na : Int) - 1) = (na : Int) - 1 := by rw [IntKind.wrap_i64]; omega
                              have hla := HGOT.out.last (by rw [← HNA.out]; exact h2)
                              rw [← HNA.out] at hla
                              obtain ⟨lg, hlg⟩ : ∃ z, ls G (na - 1) = z := ⟨_, rfl⟩
                              obtain ⟨la, hla2⟩ : ∃ z, ls A (na - 1) = z := ⟨_, rfl⟩
                              rw [hlg] at x1 hla
                              rw [hla2] at y1 hla
                              clear hcG hcA x0 y0 hlg hla2
                              by_cases he : lg = la
                              · subst he
                                clear hla
                                go_quiet (fail)
                                go_wp2
                                go_meet
                                case rel => exact ⟨rfl, _, drew2 _ _ _⟩
                              · have hne : (lg == la) = false := beq_eq_false_iff_ne.2 he
                                have HIN : Hid (lg ∈ pos :: M) := by rcases hla with h | h
                                                                     · exact absurd h he
                                                                     · exact h
                                clear hla
                                go_quiet ((go_at_call 20; exact inSorted_quiet af c cf lg (pos :: M) w15 q3 _ HEL.out hc6 HSTD2.out.rE HFAC.out.inc HIN.out))
                                go_wp2
                                go_meet
                                case rel => exact ⟨rfl, _, drew2 _ _ _⟩
                            · have p0 : decide ((2 : Int) ≤ (na : Int)) = false := by simp; omega
                              go_quiet (fail)
                              go_wp2
                              go_meet
                              case rel => exact ⟨rfl, _, drew2 _ _ _⟩
                          case rest =>
                            obtain ⟨rfl, q4, rfl⟩ := hcut
                            go_upto_if 310 with fail
                            go_cut [38, 310] from 311 to 311 (fun s _ wx => ∃ fr : Nat, s = .int .i64 fr ∧ na ≤ fr ∧ 1 ≤ fr ∧ fr ≤ n5 ∧ wx = w15.drewN q4)
                            case first =>
                              by_cases h1 : na = 0
                              · have p0 : (na : Int) < 1 := by omega
                                go_wp2
                                go_meet
                                case rel => exact ⟨1, rfl, by omega, by omega, by omega, rfl⟩
                              · have p0 : decide ((na : Int) < 1) = false := by simp; omega
                                go_wp2
                                go_meet
                                case rel => exact ⟨na, rfl, by omega, by omega, by omega, rfl⟩
                            case rest =>
                              obtain ⟨fr, rfl, hf1, hf2, hf3, rfl⟩ := hcut
                              go_wp2
                              go_loopw [39] (fun i wr => ∃ z q : Nat, fr ≤ z ∧ z ≤ n5 ∧ i = .int .i64 z ∧ wr = w15.drewN q) (fun i _ => n5 - (intOf i).toNat)
                              case atStart => exact ⟨fr, q4, by omega, by omega, rfl, rfl⟩
                              case round =>
                                obtain ⟨z, q5, hz1, hz2, rfl, rfl⟩ := hrel
                                by_cases hltz : z < n5
                                · obtain ⟨g, rfl, _, _, hcG, _⟩ := owns_at HSTD2.out.oG (by omega)
                                  obtain ⟨x0, x1⟩ := run_cell HNG.out hcG hltz
                                  have hfr := HGOT.out.fresh z (by rw [← HNA.out]; omega) (by omega) (by rw [HNG.out]; exact hltz)
                                  have HFR : Hid (fs G z ∈ pos :: M ∧ ls G z ∈ pos :: M) := hfr
                                  have p0 : (z : Int) < (n5 : Int) := by omega
                                  clear hcG hfr
                                  go_wp2_with fail
                                  refine (inSorted_yes af c cf (fs G z) (pos :: M) (w15.drewN q5) HEL.out hc6 HSTD2.out.rE HFAC.out.inc HFR.out.1).mono ?_
                                  rintro e w16 ⟨rfl, q6, rfl⟩
                                  go_wp2_with fail
                                  refine (inSorted_yes af c cf (ls G z) (pos :: M) (w15.drewN (q5 + q6)) HEL.out hc6 HSTD2.out.rE HFAC.out.inc HFR.out.2).mono ?_
                                  rintro e w17 ⟨rfl, q7, rfl⟩
                                  go_wp2
                                  go_roundw
                                  case rel => exact ⟨z + 1, _, by omega, by omega, by go_num, rfl⟩
                                  case measure => simp [intOf]; omega
                                · have hdz : decide ((z : Int) < (n5 : Int)) = false := by simp; omega
                                  go_wp2
                                  go_loopw [40] (fun i wr => ∃ v q : Nat, 1 ≤ v ∧ v ≤ n5 + 1 ∧ i = .int .i64 v ∧ wr = w15.drewN q) (fun i _ => n5 - (intOf i).toNat)
                                  case atStart => exact ⟨1, q5, by omega, by omega, rfl, rfl⟩
                                  case round =>
                                    obtain ⟨v, q8, hv1, hv2, rfl, rfl⟩ := hrel
                                    have hw1 : IntKind.i64.wrap ((v : Int) + 1) = (v : Int) + 1 := by rw [IntKind.wrap_i64]; omega
                                    by_cases hltv : v + 1 < n5
                                    · obtain ⟨g, rfl, _, _, hcG, _⟩ := owns_at HSTD2.out.oG (by omega)
                                      obtain ⟨x0, _⟩ := run_cell HNG.out hcG hltv
                                      obtain ⟨_, y1⟩ := run_cell HNG.out hcG (show v < n5 by omega)
                                      have p0 : (v : Int) + 1 < (n5 : Int) := by omega
                                      have p1 : (v : Int) < (n5 : Int) := by omega
                                      have b1 := posR_at HPG.out HNG.out hltv
                                      have b2 := posR_at HPG.out HNG.out (show v < n5 by omega)
                                      have b3 := HGOT.out.ord (v + 1) (by rw [HNG.out]; exact hltv)
                                      have b4 := b3.2 (by omega)
                                      rw [show v + 1 - 1 = v by omega] at b4
                                      have hgap := HGOT.out.gap v hv1 (by rw [HNG.out]; exact hltv)
                                      rw [← HNA.out] at hgap
                                      obtain ⟨fz, hfz⟩ : ∃ z, fs G (v + 1) = z := ⟨_, rfl⟩
                                      obtain ⟨lz, hlz⟩ : ∃ z, ls G v = z := ⟨_, rfl⟩
                                      rw [hfz] at x0 b3 b4 hgap
                                      rw [hlz] at y1 b2 b4 hgap
                                      have b5 : 0 ≤ lz ∧ lz ≤ 4611686018427387903 ∧ 0 ≤ fz ∧ fz ≤ 4611686018427387903 := by omega
                                      have hw2 : IntKind.i64.wrap (fz - lz) = fz - lz := by rw [IntKind.wrap_i64]; omega
                                      clear hcG b1 b2 b3 b4 hfz hlz
                                      by_cases hgv : na ≤ v + 1
                                      · have p2 : (na : Int) ≤ (v : Int) + 1 := by omega
                                        have p3 : decide (fz - lz ≤ span) = false := by have := hgap hgv; simp; omega
                                        clear hgap b5
                                        go_wp2
                                        go_quiet (fail)
                                        go_wp2
                                        go_roundw
                                        case rel => exact ⟨v + 1, _, by omega, by omega, by go_num, rfl⟩
                                        case measure => simp [intOf]; omega
                                      · have p2 : decide ((na : Int) ≤ (v : Int) + 1) = false := by simp; omega
                                        clear hgap b5
                                        go_wp2
                                        go_quiet (fail)
                                        go_wp2
                                        go_roundw
                                        case rel => exact ⟨v + 1, _, by omega, by omega, by go_num, rfl⟩
                                        case measure => simp [intOf]; omega
                                    · have hdv : decide ((v : Int) + 1 < (n5 : Int)) = false := by simp; omega
                                      have hc7 : c ≤ 200000 := by have := HC.out; omega
                                      go_wp2_with fail
                                      refine (cover_any a5 none n5 0 c5 0 B2 span G [] (w15.drewN q8) HNG.out rfl (by omega) (by omega) HSTD2.out.oG (.inl rfl) HPG.out (fun x hx => by cases hx) hs1 hs2).mono ?_
                                      rintro e w16 ⟨a6, k6, c6, rfl, hk6', hk6b, ho6, hb6⟩
                                      have hb : Below w15.heap.size w15 w16 := (below_draw (Below.refl _ _) q8).trans hb6
                                      have HO6 : Hid (w16.ownsRow w15.heap.size 35 2 (.slice a6 k6 c6) k6 (rcells (covR span G)) ∧ (covR span G).length = k6) := ⟨ho6, hk6'.symm⟩
                                      have HA16 : Hid (w16.ownsRow B4 35 2 (.slice aa na ca) na (rcells A) ∧ Row w16 af (pos :: M) ∧ Below w1.heap.size w1 w16) := ⟨owns_below hb HSTD2.out.oA, HSTD2.out.rE.below hb, HSTD2.out.below.trans (hb.mono HSTD2.out.below.size)⟩
                                      clear hb hb6 ho6 hk6' hdv hw1
                                      generalize w15.heap.size = B15 at *
                                      go_wp2_with fail
                                      refine (cover_any aa af na c ca cf B4 span A (pos :: M) w16 HNA.out.symm HEL.out (by omega) hc7 HA16.out.1 HA16.out.2.1 HFAC.out.posA HFAC.out.posE hs1 hs2).mono ?_
                                      rintro e w17 ⟨a7, k7, c7, rfl, hk7', hk7b, ho7, hb7⟩
                                      rw [← HCOV.out] at hk7' ho7
                                      have HO7 : Hid (w17.ownsRow w16.heap.size 35 2 (.slice a7 k7 c7) k7 (rcells (covR span G)) ∧ (covR span G).length = k7) := ⟨ho7, hk7'.symm⟩
                                      have HO67 : Hid (w17.ownsRow B15 35 2 (.slice a6 k6 c6) k6 (rcells (covR span G))) := owns_below hb7 HO6.out.1
                                      have HB17 : Hid (Below w1.heap.size w1 w17) := HA16.out.2.2.trans (hb7.mono HA16.out.2.2.size)
                                      clear hb7 ho7 hk7' HA16
                                      go_wp2_with fail
                                      refine (sameRuns_any a6 a7 k6 k7 c6 c7 B15 w16.heap.size (covR span G) (covR span G) w17 HO6.out.2 HO7.out.2 (by omega) (by omega) HO67.out HO7.out.1).mono ?_
                                      rintro e w18 ⟨r, rfl, hr, q9, rfl⟩
                                      obtain rfl : r = true := hr.2 rfl
                                      clear hr
                                      go_wp2
                                      go_ret
                                      exact ⟨rfl, below_draw HB17.out _⟩
end Go.Proofs.Qxb6618191a
