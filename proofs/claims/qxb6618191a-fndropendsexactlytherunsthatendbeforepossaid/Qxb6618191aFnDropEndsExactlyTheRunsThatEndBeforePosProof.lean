/-
  FnDropEndsExactlyTheRunsThatEndBeforePos answers true whatever its input: the walk, and the row's step (the guide's template at this function).
-/
import Derived.Test.Qxb6618191aLaw3
import Derived.WalkKit
import Derived.ProofKit
import Derived.OpenShut
import Derived.ShutString
import Derived.ChangeOld
import Derived.Below
namespace Go.Proofs.Qxb6618191a.fnDropEndsExactlyTheRunsThatEndBeforePos
open Go.ChangeShapes Go.WideShapes Go.ChangeAt Go.RowKit
open Go.ChangeMaps (open_string shut_string)
set_option linter.unusedVariables false

theorem row_max {w : World} {a : Option Addr} {len cap : Nat} {zs : List Int}
    (h : (a = none ∧ len = 0 ∧ cap = 0 ∧ zs = []) ∨ ∃ x, a = some x ∧ len ≤ cap ∧ cap ≤ maxLen ∧ zs.length = cap ∧ (∀ i, i < zs.length → w.cell? (x.add i) = some (.int .i64 (zs.getD i 0))) ∧ ∀ n ∈ zs, (Lit.int .i64 n).wf = true) : len ≤ 9223372036854775807 := by
  rcases h with ⟨_, h, _⟩ | ⟨x, _, h1, h2, _⟩
  · omega
  · unfold maxLen at h2; omega

set_option maxRecDepth 100000 in
set_option maxHeartbeats 8000000 in
theorem top3 (held of_ ol : Int) (hl : Bool) (aF aL : Option Addr) (n m cF cL : Nat) (head pos : Int) (F L : List Int) (w : World) (hF : F.length = n) (hL : L.length = m) (haF : aF = none → n = 0) (haL : aL = none → m = 0) (rF : Row w aF F) (rL : Row w aL L)
    (hh : held ≤ 9223372036854775807) (hn9 : n ≤ 9223372036854775807) (hm9 : m ≤ 9223372036854775807) :
    Calls Try.prog 3 #[.int .i64 held, .int .i64 of_, .int .i64 ol, .bool hl, .slice aF n cF, .slice aL m cL, .int .i64 head, .int .i64 pos] w fun e w' => e = .returned (.bool true) ∧ Below w.heap.size w w' := by
  have HF : Hid (F.length = n) := hF
  have HL : Hid (L.length = m) := hL
  have HN : Hid ((aF = none → n = 0) ∧ (aL = none → m = 0)) := ⟨haF, haL⟩
  have HR : Hid (Row w aF F ∧ Row w aL L) := ⟨rF, rL⟩
  clear hF hL haF haL rF rL
  by_cases h1 : n ≤ 65536 ∧ m ≤ 65536
  · obtain ⟨hn6, hm6⟩ := h1
    have hd0 : decide (65536 < (n : Int)) = false := by simp; omega
    have hd1 : decide (65536 < (m : Int)) = false := by simp; omega
    go_enter Try.func3, Try.ntmps3
    go_wp2_with fail
    refine (bytes6 held of_ ol hl aF aL n m cF cL head pos w hn9 hm9).mono ?_
    rintro e w1 ⟨r, rfl, rfl⟩
    cases r
    · go_wp2
      go_ret
      exact ⟨rfl, Below.refl _ _⟩
    · go_wp2_with fail
      refine (dropFits_any held of_ ol hl aF aL n m cF cL head F L w1 HF.out HL.out hn6 hm6 hh HR.out.1 HR.out.2).mono ?_
      rintro e w2 ⟨r, rfl, hr, hb2⟩
      cases r
      · have HB2 : Hid (Below w1.heap.size w1 w2) := hb2
        clear hb2 hr
        go_wp2
        go_ret
        exact ⟨rfl, HB2.out⟩
      · obtain ⟨hlen, hh1, hsh, hord⟩ := hr.1 rfl
        have hnm : n = m := by have := HF.out; have := HL.out; omega
        subst hnm
        rw [HF.out] at hsh
        obtain ⟨hd, rfl⟩ : ∃ hd : Nat, head = (hd : Int) := ⟨head.toNat, by have := hsh.2.1; omega⟩
        rw [Int.toNat_natCast] at hord
        have hhd : hd ≤ n := by have := hsh.2.2.1; omega
        have HSH : Hid (shapeP held hl n hd) := hsh
        have HORD : Hid (ordP (absR held of_ ol F L hd)) := hord
        have HB2 : Hid (Below w1.heap.size w1 w2) := hb2
        have HR2 : Hid (Row w2 aF F ∧ Row w2 aL L) := ⟨HR.out.1.below hb2, HR.out.2.below hb2⟩
        have hnil : ∀ (w : World) (a : Option Addr) (n c n' c' : Nat), (binOp .neq 22 (.slice a n c) (.slice none n' c')).run Try.prog w = .ok (.bool (!a.isNone)) w := fun w a n c n' c' => run_neq_slice_nil_any w 22 3 a n c n' c' Try.underlying22
        have hmk := run_make_row' (P := Try.prog) 22 3 (.int .i64 0) 8 Try.underlying22 info3 rfl .i64 .i64 n
        have hmk2 := hmk (by omega) (by omega)
        clear hmk hr hb2 hlen hsh hord HR
        go_upto_if 58 with fail
        go_cut [4, 17] from 59 to 65 (fun s _ wx => ∃ a' c', s = .slice a' n c' ∧ Hid (Row wx a' F) ∧ Hid (Below w2.heap.size w2 wx))
        case first =>
          cases aF with
          | none =>
            have hn0 := HN.out.1 rfl
            subst hn0
            go_wp2
            go_meet
            case rel => exact ⟨none, cF, rfl, HR2.out.1, Below.refl _ _⟩
          | some x =>
            obtain ⟨wx, hcp, hr2, hb2⟩ := copied w2 x n cF F 3 HF.out HR2.out.1
            have HRx : Hid (Row wx (some ⟨w2.heap.size, 0, none⟩) F) := hr2
            have HBx : Hid (Below w2.heap.size w2 wx) := hb2
            clear hr2 hb2
            go_wp2
            go_meet
            case rel => exact ⟨_, _, rfl, HRx, HBx⟩
        case rest =>
          obtain ⟨a1, c1, rfl, HR3, HBc⟩ := hcut
          have HL3 : Hid (Row wc aL L) := HR2.out.2.below HBc.out
          have HB3 : Hid (Below w1.heap.size w1 wc) := HB2.out.trans (HBc.out.mono HB2.out.size)
          clear HR2 HBc HB2
          generalize wc = w3 at *
          go_upto_if 67 with fail
          go_cut [5, 18] from 68 to 74 (fun s _ wx => ∃ a' c', s = .slice a' n c' ∧ Hid (Row wx a' L) ∧ Hid (Below w3.heap.size w3 wx))
          case first =>
            cases aL with
            | none =>
              have hn0 := HN.out.2 rfl
              subst hn0
              go_wp2
              go_meet
              case rel => exact ⟨none, cL, rfl, HL3, Below.refl _ _⟩
            | some x =>
              obtain ⟨wx, hcp, hr2, hb2⟩ := copied w3 x n cL L 3 HL.out HL3.out
              have HRx : Hid (Row wx (some ⟨w3.heap.size, 0, none⟩) L) := hr2
              have HBx : Hid (Below w3.heap.size w3 wx) := hb2
              clear hr2 hb2
              go_wp2
              go_meet
              case rel => exact ⟨_, _, rfl, HRx, HBx⟩
          case rest =>
            obtain ⟨a2, c2, rfl, HL4, HBc⟩ := hcut
            have HR4 : Hid (Row wc a1 F) := HR3.out.below HBc.out
            have HB4 : Hid (Below w1.heap.size w1 wc) := HB3.out.trans (HBc.out.mono HB3.out.size)
            clear HR3 HL3 HBc HB3 hnil hmk2 HN
            generalize wc = w4 at *
            obtain ⟨A, hA⟩ : ∃ A, absR held of_ ol F L hd = A := ⟨_, rfl⟩
            have HS0 : Hid (DropS A pos (F.zip L) hd 0 held of_ ol (F.zip L) hd) := by show DropS _ _ _ _ _ _ _ _ _ _; rw [← hA]; exact dropS_start HF.out HL.out hh1 HSH.out
            have HZ : Hid ((F.zip L).length = n) := by show (F.zip L).length = n; rw [List.length_zip, HF.out, HL.out, Nat.min_self]
            have hA1 : 1 ≤ A.length := HS0.out.lt
            have hAl : A.length ≤ n + 1 := by rw [← hA]; exact absR_len HF.out HL.out
            have HORD2 : Hid (ordP A) := by show ordP A; rw [← hA]; exact HORD.out
            have HA : Hid (absR held of_ ol F L hd = A) := hA
            clear hA HORD
            go_wp2_with fail
            refine (abs_any held of_ ol a1 a2 n c1 c2 hd F L w4 HF.out HL.out (by omega) hhd HR4.out HL4.out).mono ?_
            rintro e w5 ⟨aa, na, ca, rfl, hna, hoa, hb5⟩
            rw [HA.out] at hna hoa
            have HOA : Hid (w5.ownsRow w4.heap.size 35 2 (.slice aa na ca) na (rcells A)) := hoa
            have HNA : Hid (na = A.length) := hna
            have HR5 : Hid (Row w5 a1 F) := HR4.out.below hb5
            have HL5 : Hid (Row w5 a2 L) := HL4.out.below hb5
            have HB5 : Hid (Below w1.heap.size w1 w5) := HB4.out.trans (hb5.mono HB4.out.size)
            have hna6 : na ≤ 65537 := by omega
            have hna1 : 1 ≤ na := by omega
            clear hna hoa hb5 HR4 HL4 HB4
            go_wp2_with fail
            refine (new_any held of_ ol hl a1 a2 n c1 c2 hd F L w5 HF.out HL.out hn6 HR5.out HL5.out (fun h => by have := HSH.out.2.2.2.1 h; omega)).mono ?_
            rintro e w6 ⟨rfl, he6, hb6⟩
            obtain ⟨B, hB⟩ : ∃ B, w5.heap.size = B := ⟨_, rfl⟩
            rw [hB] at he6 hb6 ⊢
            have HE6 : Hid (Ent B w6 B held of_ ol hl (F.zip L) hd) := he6
            have HB6 : Hid (Below B w5 w6) := hb6
            have HBB : Hid (w5.heap.size = B) := hB
            clear he6 hb6 hB
            go_wp2_with fail
            refine (zzdrop_any B B pos held of_ ol hl (F.zip L) hd A w6 HE6.out HS0.out (by omega) (by rw [HZ.out]; exact hn6)).mono ?_
            rintro e w7 ⟨rfl, ⟨h', of', ol', rs', hd', he7, hd7⟩, hb7⟩
            have HE7 : Hid (Ent B w7 B h' of' ol' hl rs' hd') := he7
            have hlaw := law_of HORD2.out hd7
            have HLAW : Hid (LawS A (keepR A pos) (F.zip L) hd h' of' ol' rs' hd') := hlaw
            have hrs : rs'.length ≤ n := by have := hlaw.len; rw [HZ.out] at this; exact this
            have HB7 : Hid (Below B w5 w7) := HB6.out.trans hb7
            clear he7 hd7 hb7 hlaw HE6 HB6 HS0
            go_wp2_with fail
            refine (read_any B B h' of' ol' hl rs' hd' w7 (by omega) HE7.out).mono ?_
            rintro e w8 ⟨a3, a4, n2, c3, c4, rfl, hn2, hr3, hr4, hb8⟩
            have HR8 : Hid (Row w8 a3 (fsL rs') ∧ Row w8 a4 (lsL rs')) := ⟨hr3, hr4⟩
            have HN2 : Hid (n2 = rs'.length) := hn2
            have hn2n : n2 ≤ n := by omega
            have HB8 : Hid (Below B w5 w8) := HB7.out.trans (hb8.mono (by rw [← HBB.out]; exact HB7.out.size))
            clear hn2 hr3 hr4 hb8 HB7 HE7 hrs
            have HOA8 : Hid (w8.ownsRow w4.heap.size 35 2 (.slice aa na ca) na (rcells A)) := owns_below (by rw [HBB.out]; exact HB8.out) HOA.out
            have HR58 : Hid (Row w8 a1 F ∧ Row w8 a2 L) := ⟨HR5.out.below (by rw [HBB.out]; exact HB8.out), HL5.out.below (by rw [HBB.out]; exact HB8.out)⟩
            have HB18 : Hid (Below w1.heap.size w1 w8) := HB5.out.trans (HB8.out.mono (by rw [← HBB.out]; exact HB5.out.size))
            clear HB8 HOA HR5 HL5 HB5
            go_wp2_with fail
            refine (runsFrom_any aa na ca w4.heap.size pos A w8 HNA.out.symm (by omega) HOA8.out).mono ?_
            rintro e w9 ⟨ak, nk, ck, rfl, hnk, hok, hb9⟩
            have HOK : Hid (w9.ownsRow w8.heap.size 35 2 (.slice ak nk ck) nk (rcells (keepR A pos))) := hok
            have HNK : Hid (nk = (keepR A pos).length) := hnk
            have HR9 : Hid (Row w9 a3 (fsL rs') ∧ Row w9 a4 (lsL rs')) := ⟨HR8.out.1.below hb9, HR8.out.2.below hb9⟩
            have HOA9 : Hid (w9.ownsRow w4.heap.size 35 2 (.slice aa na ca) na (rcells A)) := owns_below hb9 HOA8.out
            have HR59 : Hid (Row w9 a1 F ∧ Row w9 a2 L) := ⟨HR58.out.1.below hb9, HR58.out.2.below hb9⟩
            have HB19 : Hid (Below w1.heap.size w1 w9) := HB18.out.trans (hb9.mono HB18.out.size)
            have hnk6 : nk ≤ 65537 := by have := keep_len A pos; have := HNA.out; omega
            obtain rfl : h' = (nk : Int) := by rw [HLAW.out.held, hnk]
            have hhd2 : hd' ≤ n2 := by have := HLAW.out.hd_le; have := HN2.out; omega
            clear hok hnk hb9 HR8 HOA8 HR58 HB18
            generalize w8.heap.size = B8 at *
            generalize w4.heap.size = B4 at *
            go_wp2_with fail
            refine (shape_any nk hl n2 hd' w9 (by omega) (by omega) (by omega)).mono ?_
            rintro e w10 ⟨r, rfl, hr, q, rfl⟩
            obtain rfl : r = true := hr.2 (shape_law HLAW.out HNK.out HN2.out HSH.out HZ.out)
            clear hr
            have HD10 : Hid (Below w1.heap.size w1 (w9.drewN q)) := below_draw HB19.out q
            by_cases hk0 : nk = 0
            · subst hk0
              obtain ⟨hrs, hd0', hof, hol⟩ := HLAW.out.none HNK.out.symm
              obtain rfl : n2 = 0 := by have := HN2.out; rw [hrs] at this; exact this
              rw [← HNA.out] at hof hol
              subst hd0' hof hol
              obtain ⟨g, rfl, _, _, hc, _⟩ := owns_at HOA9.out (by omega)
              obtain ⟨x0, x1⟩ := run_cell HNA.out.symm hc (show na - 1 < na by omega)
              have b0 : (0 : Int) ≤ (na : Int) - 1 := by omega
              have x0' : (w9.drewN q).cell? ⟨g, (na - 1) * 2, none⟩ = some (.int .i64 (fs A (na - 1))) := x0
              have x1' : (w9.drewN q).cell? ⟨g, (na - 1) * 2 + 1, none⟩ = some (.int .i64 (ls A (na - 1))) := x1
              clear x0 x1 HR9 HR59 HOA9 HOK HB19
              generalize w9.drewN q = wz at *
              clear hc hrs hhd hhd2
              go_wp2
              go_ret
              exact ⟨rfl, HD10.out.alloc HD10.out.size _⟩
            · have hk1 : ((nk : Int) == 0) = false := beq_eq_false_iff_ne.2 (by omega)
              obtain ⟨hcons, hcnt⟩ := HLAW.out.some (by rw [← HNK.out]; exact hk0)
              have HABS : Hid (absR nk of' ol' (fsL rs') (lsL rs') hd' = keepR A pos) := by
                show absR _ _ _ _ _ _ = _
                rw [absR, if_neg (by omega), zip_fl]
                exact hcons
              clear hcons hcnt
              go_wp2_with fail
              refine (abs_any nk of' ol' a3 a4 n2 c3 c4 hd' (fsL rs') (lsL rs') (w9.drewN q) (by rw [fsL_len]; exact HN2.out.symm) (by rw [lsL_len]; exact HN2.out.symm) (by omega) hhd2 HR9.out.1 HR9.out.2).mono ?_
              rintro e w11 ⟨a5, n5, c5, rfl, hn5, ho5, hb11⟩
              rw [HABS.out] at hn5 ho5
              obtain rfl : n5 = nk := hn5.trans HNK.out.symm
              have hb9 : Below w9.heap.size w9 w11 := (below_draw (Below.refl _ _) q).trans hb11
              have HO5 : Hid (w11.ownsRow w9.heap.size 35 2 (.slice a5 n5 c5) n5 (rcells (keepR A pos))) := ho5
              have HOK11 : Hid (w11.ownsRow B8 35 2 (.slice ak n5 ck) n5 (rcells (keepR A pos))) := owns_below hb9 HOK.out
              have HR11 : Hid (Row w11 a3 (fsL rs') ∧ Row w11 a4 (lsL rs')) := ⟨HR9.out.1.below hb9, HR9.out.2.below hb9⟩
              have HR51 : Hid (Row w11 a1 F ∧ Row w11 a2 L) := ⟨HR59.out.1.below hb9, HR59.out.2.below hb9⟩
              have HB11 : Hid (Below w1.heap.size w1 w11) := HB19.out.trans (hb9.mono HB19.out.size)
              clear hn5 ho5 hb11 hb9 HD10 HR9 HR59 HOK HOA9 HB19
              go_wp2_with fail
              refine (sameRuns_any a5 ak n5 n5 c5 ck w9.heap.size B8 (keepR A pos) (keepR A pos) w11 HNK.out.symm HNK.out.symm (by omega) (by omega) HO5.out HOK11.out).mono ?_
              rintro e w12 ⟨r, rfl, hr, q2, rfl⟩
              obtain rfl : r = true := hr.2 rfl
              clear hr
              by_cases hall : n5 = na
              · subst hall
                obtain ⟨hrs, hdd⟩ := HLAW.out.all (by rw [← HNK.out]; exact hk0) (by rw [← HNK.out]; exact HNA.out)
                obtain rfl : n2 = n := by rw [HN2.out, hrs, HZ.out]
                subst hdd hrs
                go_wp2_with fail
                refine (sameInts_any a3 a1 n2 n2 c3 c1 (fsL (F.zip L)) F (w11.drewN q2) (by rw [fsL_len]; exact HN2.out.symm) HF.out (by omega) (by omega) HR11.out.1 HR51.out.1).mono ?_
                rintro e w13 ⟨r, rfl, hr, q3, rfl⟩
                obtain rfl : r = true := hr.2 (fsL_zip HF.out HL.out)
                clear hr
                go_wp2_with fail
                refine (sameInts_any a4 a2 n2 n2 c4 c2 (lsL (F.zip L)) L (w11.drewN (q2 + q3)) (by rw [lsL_len]; exact HN2.out.symm) HL.out (by omega) (by omega) HR11.out.2 HR51.out.2).mono ?_
                rintro e w14 ⟨r, rfl, hr, q4, rfl⟩
                obtain rfl : r = true := hr.2 (lsL_zip HF.out HL.out)
                clear hr
                go_wp2
                go_ret
                exact ⟨rfl, below_draw HB11.out _⟩
              · have hne : ((n5 : Int) == (na : Int)) = false := beq_eq_false_iff_ne.2 (by omega)
                have h2 := HLAW.out.part (by rw [← HNK.out]; exact hk0) (by rw [← HNK.out, ← HNA.out]; exact hall)
                rw [← HN2.out] at h2
                have h3 : 2 * (hd' : Int) ≤ (n2 : Int) := by omega
                go_wp2
                go_ret
                exact ⟨rfl, below_draw HB11.out _⟩
  · go_enter Try.func3, Try.ntmps3
    go_wp2_with fail
    refine (bytes6 held of_ ol hl aF aL n m cF cL head pos w hn9 hm9).mono ?_
    rintro e w1 ⟨r, rfl, rfl⟩
    have h2 : 65536 < (n : Int) ∨ (n : Int) ≤ 65536 ∧ 65536 < (m : Int) := by omega
    cases r
    · go_wp2
      go_ret
      exact ⟨rfl, Below.refl _ _⟩
    · rcases h2 with h2 | ⟨h2, h3⟩
      · go_wp2
        go_ret
        exact ⟨rfl, Below.refl _ _⟩
      · have h4 : decide (65536 < (n : Int)) = false := by simp; omega
        go_wp2
        go_ret
        exact ⟨rfl, Below.refl _ _⟩

theorem own : ownKnob Try.prog.godebug = none := by kernel_rfl
theorem laidOut : laidOutB Try.prog = true := by kernel_rfl

/-- WHAT THE WALK IS TOLD OF A SLICE OF INTEGERS THAT CAME IN: it is nil; or it leads to a row of 'cap' cells, the numbers 'zs' (the first 'len' are its elements, the rest its spare room), each fitting its kind. -/
def IsRow (k : IntKind) (w : World) (a : Option Addr) (len cap : Nat) (zs : List Int) : Prop :=
  (a = none ∧ len = 0 ∧ cap = 0 ∧ zs = []) ∨
  ∃ x, a = some x ∧ len ≤ cap ∧ cap ≤ maxLen ∧ zs.length = cap ∧ (∀ i, i < zs.length → w.cell? (x.add i) = some (.int k (zs.getD i 0))) ∧ ∀ n ∈ zs, (Lit.int k n).wf = true

/-! ### STEP 1: THE WALK: the Go text returns true, AND WRITES NOTHING THAT WAS THERE: 'Below w.heap.size w w'' (Derived/Below.lean: '.refl', '.alloc', '.drew', '.setCell' at a new block, '.trans'). Open each 'IsRow' by 'rcases' AHEAD of 'go_enter'; part every test ahead of the walk. -/
theorem walk (a0 : Int) (a1 : Int) (a2 : Int) (a3 : Bool) (a4 : Option Addr) (len4 cap4 : Nat) (z4 : List Int) (a5 : Option Addr) (len5 cap5 : Nat) (z5 : List Int) (a6 : Int) (a7 : Int) (w : World) (w0 : (Lit.int .i64 a0).wf = true) (w1 : (Lit.int .i64 a1).wf = true) (w2 : (Lit.int .i64 a2).wf = true) (w4 : IsRow .i64 w a4 len4 cap4 z4) (w5 : IsRow .i64 w a5 len5 cap5 z5) (w6 : (Lit.int .i64 a6).wf = true) (w7 : (Lit.int .i64 a7).wf = true) :
    Calls Try.prog 3 #[.int .i64 a0, .int .i64 a1, .int .i64 a2, .bool a3, .slice a4 len4 cap4, .slice a5 len5 cap5, .int .i64 a6, .int .i64 a7] w fun e w' => e = .returned (.bool true) ∧ Below w.heap.size w w' := by
  obtain ⟨hF, haF, rF, _⟩ := row_of w4
  obtain ⟨hL, haL, rL, _⟩ := row_of w5
  exact top3 a0 a1 a2 a3 a4 a5 len4 len5 cap4 cap5 a6 a7 _ _ w hF hL haF haL rF rL (bounds_i64 w0).2 (row_max w4) (row_max w5)

/-! ### THE ROW's STEP: WRITTEN OUT: LEAVE IT -/
set_option maxRecDepth 100000 in
theorem lifted (os : Os) (started : os.Started) (H : Type) (enc : TypeId × Value → H) :
    ReturnsInHanded {} Try.checked os 3 .any (Rows.fnDropEndsExactlyTheRunsThatEndBeforePosSpec.pre6 enc Try.prog Try.f3 Rows.fnDropEndsExactlyTheRunsThatEndBeforePosRow.domain false) (Rows.fnDropEndsExactlyTheRunsThatEndBeforePosSpec.post enc Try.prog Try.f3 false true false false) := by
  refine returnsInHanded_of_change (C := Try.checked) own started (by kernel_rfl) Try.func3
    (ChangeSpec.witness6 (enc := enc) (C := Try.checked) false ⟨#[], #[.int .i64 0, .int .i64 0, .int .i64 0, .bool false, .slice none 0 0, .slice none 0 0, .int .i64 0, .int .i64 0], []⟩ 8 (by kernel_rfl) (by kernel_rfl) (by kernel_rfl) (by kernel_rfl)) ?_
  intro W base args ds gs before hval0 hW hcnd _
  have hval : ∀ (j : Nat) t v, Try.f3.params[j]? = some t → args[j]? = some v → Value.okWide Try.prog W .any base t v := hval0
  have hW' := hW
  obtain ⟨p, q, hA0, hV, rfl, hfz, hnd⟩ := hW
  have hA : DataW.TrodAll enc Try.prog W 0 (fun _ => true) true Try.f3.params.toList args.toList ds p := hA0
  rw [Try.params3] at hA hval
  obtain ⟨v0, vs0, d0, ds0, p0, q0, hargs, rfl, rfl, h0, r0⟩ := trodAll_cons hA
  obtain ⟨v1, vs1, d1, ds1, p1, q1, rfl, rfl, rfl, h1, r1⟩ := trodAll_cons r0
  obtain ⟨v2, vs2, d2, ds2, p2, q2, rfl, rfl, rfl, h2, r2⟩ := trodAll_cons r1
  obtain ⟨v3, vs3, d3, ds3, p3, q3, rfl, rfl, rfl, h3, r3⟩ := trodAll_cons r2
  obtain ⟨v4, vs4, d4, ds4, p4, q4, rfl, rfl, rfl, h4, r4⟩ := trodAll_cons r3
  obtain ⟨v5, vs5, d5, ds5, p5, q5, rfl, rfl, rfl, h5, r5⟩ := trodAll_cons r4
  obtain ⟨v6, vs6, d6, ds6, p6, q6, rfl, rfl, rfl, h6, r6⟩ := trodAll_cons r5
  obtain ⟨v7, vs7, d7, ds7, p7, q7, rfl, rfl, rfl, h7, r7⟩ := trodAll_cons r6
  obtain ⟨rfl, rfl, rfl⟩ := trodAll_nil r7
  obtain rfl : args = #[v0, v1, v2, v3, v4, v5, v6, v7] := by cases args; simp_all
  obtain ⟨rfl, rfl⟩ := trodVars_none hV
  obtain ⟨a0, rfl, rfl, rfl, w0⟩ := open_int Try.underlying3 (hval 0 3 v0 rfl rfl) h0
  obtain ⟨a1, rfl, rfl, rfl, w1⟩ := open_int Try.underlying3 (hval 1 3 v1 rfl rfl) h1
  obtain ⟨a2, rfl, rfl, rfl, w2⟩ := open_int Try.underlying3 (hval 2 3 v2 rfl rfl) h2
  obtain ⟨a3, rfl, rfl, rfl⟩ := open_bool Try.underlying4 (hval 3 4 v3 rfl rfl) h3
  obtain ⟨a4, len4, cap4, rfl⟩ := okWide_slice Try.underlying22 (hval 4 22 v4 rfl rfl)
  have k4 := h4
  have lt4 : ∀ x ∈ p4, x.block < W.heap.size := by obtain ⟨m, hm⟩ := k4; exact DataW.trod_lt m _ _ _ hm
  obtain ⟨z4, w4⟩ : ∃ zs, IsRow .i64 W a4 len4 cap4 zs := by
    obtain ⟨fuel, hf⟩ := h4
    rcases open_ints Try.underlying22 Try.underlying3 (by kernel_rfl) hf with ⟨hcs, _⟩ | ⟨x, l, c, zs, hcs, _, hl, hm, hz, _, hcell, hwz⟩
    · simp [Value.cells] at hcs
      obtain ⟨rfl, rfl, rfl⟩ := hcs
      exact ⟨[], .inl ⟨rfl, rfl, rfl, rfl⟩⟩
    · simp [Value.cells] at hcs
      obtain ⟨rfl, rfl, rfl⟩ := hcs
      exact ⟨zs, .inr ⟨_, rfl, hl, hm, by simpa using hz, hcell, hwz⟩⟩
  obtain ⟨a5, len5, cap5, rfl⟩ := okWide_slice Try.underlying22 (hval 5 22 v5 rfl rfl)
  have k5 := h5
  have lt5 : ∀ x ∈ p5, x.block < W.heap.size := by obtain ⟨m, hm⟩ := k5; exact DataW.trod_lt m _ _ _ hm
  obtain ⟨z5, w5⟩ : ∃ zs, IsRow .i64 W a5 len5 cap5 zs := by
    obtain ⟨fuel, hf⟩ := h5
    rcases open_ints Try.underlying22 Try.underlying3 (by kernel_rfl) hf with ⟨hcs, _⟩ | ⟨x, l, c, zs, hcs, _, hl, hm, hz, _, hcell, hwz⟩
    · simp [Value.cells] at hcs
      obtain ⟨rfl, rfl, rfl⟩ := hcs
      exact ⟨[], .inl ⟨rfl, rfl, rfl, rfl⟩⟩
    · simp [Value.cells] at hcs
      obtain ⟨rfl, rfl, rfl⟩ := hcs
      exact ⟨zs, .inr ⟨_, rfl, hl, hm, by simpa using hz, hcell, hwz⟩⟩
  obtain ⟨a6, rfl, rfl, rfl, w6⟩ := open_int Try.underlying3 (hval 6 3 v6 rfl rfl) h6
  obtain ⟨a7, rfl, rfl, rfl, w7⟩ := open_int Try.underlying3 (hval 7 3 v7 rfl rfl) h7
  clear hA0 hval0
  refine (walk a0 a1 a2 a3 a4 len4 cap4 z4 a5 len5 cap5 z5 a6 a7 W w0 w1 w2 w4 w5 w6 w7).mono fun e W' ⟨he, bel⟩ => ?_
  subst he
  exact ⟨_, rfl, _, _, _, [], _, [], hW', trodAll_mk1 (shut_bool Try.underlying4 _), (trodAll_cons_mk (shut_int Try.underlying3 w0) (trodAll_cons_mk (shut_int Try.underlying3 w1) (trodAll_cons_mk (shut_int Try.underlying3 w2) (trodAll_cons_mk (shut_bool Try.underlying4 _) (trodAll_cons_mk (Below.trod laidOut (by kernel_rfl) (of_decide_eq_true (by kernel_rfl)) k4 bel lt4) (trodAll_cons_mk (Below.trod laidOut (by kernel_rfl) (of_decide_eq_true (by kernel_rfl)) k5 bel lt5) (trodAll_cons_mk (shut_int Try.underlying3 w6) (trodAll_cons_mk (shut_int Try.underlying3 w7) trodAll_mk0)))))))), rfl, bel.frame _, fun h => by cases h⟩

theorem over : Rows.fnDropEndsExactlyTheRunsThatEndBeforePosRow.holds Try.pinned (OpenSpec.ofChange Rows.fnDropEndsExactlyTheRunsThatEndBeforePosSpec) :=
  OpenClaim.holds_of_wide 3 Try.f3 rfl rfl rfl rfl rfl rfl rfl ⟨rfl, rfl, rfl, rfl, rfl⟩ rfl rfl rfl rfl rfl (by kernel_rfl) Try.func3 (by kernel_rfl)
    (of_decide_eq_true (by kernel_rfl)) (by unfold Func.isWrapper; first | (rw [if_pos (by decide +kernel)]; kernel_rfl) | (rw [if_neg (by decide +kernel)]; exact ⟨rfl, rfl⟩))
    (fun os started H enc _ => lifted os started H enc)

/-- ████ THE STATEMENT ████ -/
theorem proved : Rows.FnDropEndsExactlyTheRunsThatEndBeforePosSaid := over
#print axioms proved
end Go.Proofs.Qxb6618191a.fnDropEndsExactlyTheRunsThatEndBeforePos
