/-
  FnAddKeepsLongestFittingSuffix answers true whatever its input: the walk, and the row's step (the guide's template at this function).
-/
import Derived.Test.Qxb6618173aPlain
import Derived.WalkKit
import Derived.ProofKit
import Derived.OpenShut
import Derived.ShutString
import Derived.ChangeOld
import Derived.Below
namespace Go.Proofs.Qxb6618173a.fnAddKeepsLongestFittingSuffix
open Go.ChangeShapes Go.WideShapes Go.ChangeAt Go.RowKit
open Go.ChangeMaps (open_string shut_string)
set_option linter.unusedVariables false

theorem zz6 (a : Option Addr) (n cap : Nat) (x1 x2 x3 x4 : Int) (w : World) (h : n ≤ 1048576) :
    Calls Try.prog 6 #[.slice a n cap, .int .i64 x1, .int .i64 x2, .int .i64 x3, .int .i64 x4] w fun e w' => e = .returned (.bool true) ∧ w' = w := by
  go_enter Try.func6, Try.ntmps6
  go_wp2
  go_ret
  exact ⟨rfl, rfl⟩

set_option maxRecDepth 100000 in
set_option maxHeartbeats 4000000 in
theorem top3 (a : Option Addr) (n cap : Nat) (l : List Int) (by_ z he hby : Int) (w : World) (hl : l.length = n) (ha : a = none → n = 0) (hr : Row w a l) :
    Calls Try.prog 3 #[.slice a n cap, .int .i64 by_, .int .i64 z, .int .i64 he, .int .i64 hby] w fun e w' => e = .returned (.bool true) ∧ Below w.heap.size w w' := by
  have HL : Hid (l.length = n) := hl
  have HA : Hid (a = none → n = 0) := ha
  have HR : Hid (Row w a l) := hr
  have hnil : ∀ (w : World) (a : Option Addr) (n c n' c' : Nat), (binOp .neq 22 (.slice a n c) (.slice none n' c')).run Try.prog w = .ok (.bool (!a.isNone)) w := fun w a n c n' c' => run_neq_slice_nil_any w 22 3 a n c n' c' Try.underlying22
  have hmk := run_make_row' (P := Try.prog) 22 3 (.int .i64 0) 8 Try.underlying22 info3 rfl .i64 .i64 n
  clear hl ha hr
  by_cases h1 : n ≤ 65536
  · have hd0 : decide (65536 < (n : Int)) = false := by simp; omega
    have hmk2 := hmk (by omega) (by omega)
    clear hmk
    go_enter Try.func3, Try.ntmps3
    go_wp2_with fail
    refine (zz6 _ _ _ _ _ _ _ _ (by omega)).mono ?_
    rintro e w1 ⟨rfl, rfl⟩
    go_upto_if 35 with fail
    go_cut [0, 11] from 36 to 42 (fun s _ wx => ∃ a' c', s = .slice a' n c' ∧ (a' = none → n = 0) ∧ Row wx a' l ∧ Below w1.heap.size w1 wx)
    case first =>
      cases a with
      | none =>
        have hn0 := HA.out rfl
        subst hn0
        go_wp2
        go_meet
        case rel => exact ⟨none, cap, rfl, (by simp), HR.out, Below.refl _ _⟩
      | some x =>
        obtain ⟨w2, hcp, hr2, hb2⟩ := copied w1 x n cap l 3 HL.out HR.out
        have HR2 : Hid (Row w2 (some ⟨w1.heap.size, 0, none⟩) l) := hr2
        have HB2 : Hid (Below w1.heap.size w1 w2) := hb2
        clear hr2 hb2
        go_wp2
        go_meet
        case rel => exact ⟨_, _, rfl, fun h => (by cases h), HR2.out, HB2.out⟩
    case rest =>
      obtain ⟨a', c', rfl, ha', hr', hb'⟩ := hcut
      have HR2 : Hid (Row wc a' l) := hr'
      have HB2 : Hid (Below w1.heap.size w1 wc) := hb'
      clear ha' hr' hb' HA hnil hmk2 HR
      by_cases hz : 0 ≤ z ∧ z ≤ 4611686018427387903
      · obtain ⟨hz0, hz1⟩ := hz
        have hd1 : decide (z < 0) = false := by simp; omega
        have hd2 : decide (4611686018427387903 < z) = false := by simp; omega
        go_wp2
        go_loop [13, 14] (fun t i => ∃ (k : Nat) (S : Int), k ≤ n ∧ i = .int .i64 k ∧ t = .int .i64 S ∧ 0 ≤ S ∧ S ≤ 4611686018427387903 - z ∧ Hid (S = sumL (l.take k) ∧ ∀ i, i < k → 0 ≤ l[i]?.getD 0)) (fun _ i => n - (intOf i).toNat)
        case atStart => exact ⟨0, 0, by omega, rfl, rfl, by omega, by omega, rfl, fun i hi => by omega⟩
        case round =>
          obtain ⟨k, S, hkn, rfl, rfl, hS0, hS1, HS⟩ := hrel
          by_cases hlt : k < n
          · obtain ⟨b, off, rfl, hc⟩ := HR2.out.at HL.out hlt
            have b1 : (k : Int) < (n : Int) := by omega
            by_cases hq : 0 ≤ l[k]?.getD 0 ∧ l[k]?.getD 0 ≤ 4611686018427387903 - z - S
            · obtain ⟨hq0, hq1⟩ := hq
              have he1 : decide (l[k]?.getD 0 < 0) = false := by simp; omega
              go_wp2
              go_round
              case rel =>
                refine ⟨k + 1, _, by omega, by go_num, rfl, by omega, by omega, ?_, fun i hi => ?_⟩
                · rw [sumL_snoc HL.out hlt, HS.out.1]
                · by_cases e : i = k
                  · subst e; exact hq0
                  · exact HS.out.2 i (by omega)
              case measure => simp [intOf]; omega
            · by_cases hq0 : l[k]?.getD 0 < 0
              · clear hq
                go_wp2
                go_ret
                exact ⟨rfl, HB2.out⟩
              · have he1 : decide (l[k]?.getD 0 < 0) = false := by simp; omega
                have hq1 : 4611686018427387903 - z - S < l[k]?.getD 0 := by omega
                clear hq
                go_wp2
                go_ret
                exact ⟨rfl, HB2.out⟩
          · have hk : k = n := by omega
            subst hk
            by_cases hby0 : by_ = S
            · subst hby0
              go_wp2_with fail
              refine (mkEvents 1 k wc (by omega) (by omega) h1).mono ?_
              rintro e w3 ⟨rfl, hev, hb3⟩
              have HE3 : Hid (Evs w3 wc.heap.size 1 k) := hev
              have HR3 : Hid (Row w3 a' l) := HR2.out.below hb3
              have HB3 : Hid (Below w1.heap.size w1 w3) := HB2.out.trans (hb3.mono HB2.out.size)
              clear hev hb3 HR2 HB2
              generalize wc.heap.size = eb at *
              go_wp2_with fail
              refine (mkHist a' l eb k c' w3.heap.size 1 by_ w3 HL.out HR3.out HE3.out h1 (Nat.le_refl _)).mono ?_
              rintro e w4 ⟨rfl, hh, hb4⟩
              have HH4 : Hid (Hist w4 w3.heap.size (w3.heap.size + 1) (esOf eb l k) (sumS (esOf eb l k))) := by
                have e1 : by_ = sumS (esOf eb l k) := by rw [sumS_esOf HL.out k (Nat.le_refl _)]; exact HS.out.1
                rw [← e1]; exact hh
              have HB4 : Hid (Below w3.heap.size w3 w4) := hb4
              have HN : Hid (nonneg (esOf eb l k) ∧ sumS (esOf eb l k) + z ≤ 4611686018427387903) := ⟨nonneg_esOf HS.out.2, by rw [sumS_esOf HL.out k (Nat.le_refl _), ← HS.out.1]; omega⟩
              clear hh hb4
              generalize hBB : w3.heap.size = B at *
              have HBB : Hid (w3.heap.size = B) := hBB
              clear hBB
              go_wp2_with fail
              refine (zzAdd B (B + 1) w4.heap.size (esOf eb l k) z he hby _ (HH4.out.alloc _) (by have := HB4.out.size; have := HBB.out; simp; omega) (by rw [esOf_length]; exact h1) HN.out.1 hz0 HN.out.2).mono ?_
              rintro e w5 ⟨rfl, hh5, hk5⟩
              have HB5 : Hid (Below B w3 w5) := (HB4.out.alloc (by have := HB4.out.size; have := HBB.out; omega) _).trans hk5.below
              have HBw : Hid (Below w1.heap.size w1 w5) := HB3.out.trans (HB5.out.mono (by have := HB3.out.size; have := HBB.out; omega))
              have HR5 : Hid (Row w5 a' l) := HR3.out.below (by rw [HBB.out]; exact HB5.out)
              have HE5 : Hid (Evs w5 eb 1 k) := HE3.out.below (by rw [HBB.out]; exact HB5.out)
              generalize w4.heap.size = en at *
              have HH5 : Hid (Hist w5 B (B + 1) (added he hby (esOf eb l k) (en, z)) (sumS (added he hby (esOf eb l k) (en, z)))) := hh5
              clear hh5 hk5 HR3 HE3 HB3 HB4 HB5 HH4
              by_cases hno : he < 1 ∨ hby < z
              · have e0 : added he hby (esOf eb l k) (en, z) = [] := if_pos hno
                have HH6 : Hid (Hist w5 B (B + 1) [] 0) := by have := HH5.out; rw [e0] at this; exact this
                clear e0 HH5
                by_cases hn1 : he < 1
                · clear hno
                  go_wp2_with (first | (go_at_call 10; refine (histLen B (B + 1) [] 0 _ HH6.out).mono ?_; rintro e w' ⟨rfl, rfl⟩) | (go_at_call 11; refine (histBytes B (B + 1) [] 0 _ HH6.out).mono ?_; rintro e w' ⟨rfl, rfl⟩))
                  go_ret
                  exact ⟨rfl, HBw.out⟩
                · have hn2 : hby < z := by omega
                  have hd3 : decide (he < 1) = false := by simp; omega
                  clear hno
                  go_wp2_with (first | (go_at_call 10; refine (histLen B (B + 1) [] 0 _ HH6.out).mono ?_; rintro e w' ⟨rfl, rfl⟩) | (go_at_call 11; refine (histBytes B (B + 1) [] 0 _ HH6.out).mono ?_; rintro e w' ⟨rfl, rfl⟩))
                  go_ret
                  exact ⟨rfl, HBw.out⟩
              · have hh1 : 1 ≤ he := by omega
                have hh2 : z ≤ hby := by omega
                have hd3 : decide (he < 1) = false := by simp; omega
                have hd4 : decide (hby < z) = false := by simp; omega
                have e0 : added he hby (esOf eb l k) (en, z) = trim he hby z (esOf eb l k) ++ [(en, z)] := if_neg hno
                obtain ⟨d, hd, ht, ht1, ht2, ht3⟩ := trim_spec he hby z hh1 hh2 (esOf eb l k)
                rw [e0, ht] at HH5
                rw [esOf_length] at hd
                have hmd : ((esOf eb l k).drop d).length = k - d := by rw [List.length_drop, esOf_length]
                rw [hmd] at ht1 ht3
                obtain ⟨m, hm⟩ : ∃ m, m = k - d := ⟨_, rfl⟩
                have hdk : d = k - m := by omega
                subst hdk
                have hmk : m ≤ k := by omega
                have hmm : k - (k - m) = m := by omega
                rw [hmm] at ht1 ht3
                have HT : Hid (sumS ((esOf eb l k).drop (k - m)) + z ≤ hby ∧ (k - m = 0 ∨ ¬ ((m : Int) + 1 < he ∧ sumS ((esOf eb l k).drop (k - m - 1)) + z ≤ hby))) := ⟨ht2, ht3⟩
                clear hno e0 ht ht2 ht3 hd hmd hmm hm
                have hlen : ((esOf eb l k).drop (k - m) ++ [(en, z)]).length = m + 1 := by simp [esOf_length]; omega
                have HLn : Hid (((esOf eb l k).drop (k - m) ++ [(en, z)]).length = m + 1) := hlen
                clear hlen
                go_wp2_with fail
                refine (histLen _ _ _ _ _ HH5.out).mono ?_
                rintro e w6 ⟨rfl, rfl⟩
                rw [HLn.out]
                have hd5 : decide ((m : Int) + 1 < 1) = false := decide_eq_false (by omega)
                have hd6 : decide (he < (m : Int) + 1) = false := by simp; omega
                have hd7 : decide ((k : Int) < (m : Int)) = false := by simp; omega
                have hne := neq29_same
                go_wp2_with fail
                obtain ⟨es, hes⟩ : ∃ es, (esOf eb l k).drop (k - m) ++ [(en, z)] = es := ⟨_, rfl⟩
                rw [hes] at HH5
                have HES : Hid ((esOf eb l k).drop (k - m) ++ [(en, z)] = es) := hes
                clear hes
                go_loopw [22, 23] (fun t i wr => ∃ (j : Nat) (S : Int), j ≤ m ∧ i = .int .i64 j ∧ t = .int .i64 S ∧ 0 ≤ S ∧ S ≤ by_ ∧ Hid (S = sumL ((l.drop (k - m)).take j)) ∧ Hid (Hist wr B (B + 1) es (sumS es)) ∧ Hid (Row wr a' l) ∧ Hid (Evs wr eb 1 k) ∧ Hid (Below w1.heap.size w1 wr)) (fun _ i _ => m - (intOf i).toNat)
                case atStart => exact ⟨0, 0, by omega, rfl, rfl, by omega, by omega, rfl, HH5, HR5, HE5, HBw⟩
                case round =>
                  obtain ⟨j, S, hjm, rfl, rfl, hT0, hT1, HJ, HJ1, HJ2, HJ3, HJ4⟩ := hrel
                  clear HH5 HR5 HE5 HBw
                  by_cases hlt2 : j < m
                  · have HX : Hid (es[j]? = some (eb + 1 + (k - m + j), l[k - m + j]?.getD 0)) := by rw [← HES.out]; exact held_at (eb := eb) (l := l) (en, z) hmk hlt2
                    obtain ⟨b, off, rfl, hc⟩ := HJ2.out.at HL.out (show k - m + j < k by omega)
                    have hce := HJ3.out.1.cell (show k - m + j < k by omega)
                    have b1 : (0 : Int) ≤ (k : Int) - (m : Int) + (j : Int) := by omega
                    have b2 : (k : Int) - (m : Int) + (j : Int) < (k : Int) := by omega
                    have b3 : 0 ≤ l[k - m + j]?.getD 0 := HS.out.2 _ (by omega)
                    have b4 : S + l[k - m + j]?.getD 0 ≤ by_ := by
                      have p1 := part_snoc (j := j) HL.out hmk hlt2
                      have p2 := part_le (j := j + 1) HL.out HS.out.2 hmk
                      have p3 := HJ.out
                      have p4 := HS.out.1
                      omega
                    go_wp2
                    go_quiet ((first | (go_at_call 12; exact Calls.quiet_of_same (histEvent B (B + 1) _ _ j _ _ (HJ1.out.draw _) HX.out)) | (go_at_call 13; exact Calls.quiet_of_same (histSize B (B + 1) _ _ j _ _ (HJ1.out.draw _) HX.out))))
                    go_wp2
                    go_roundw
                    case rel => exact ⟨j + 1, _, by omega, by go_num, rfl, by omega, by omega, by show _ = _; rw [part_snoc HL.out hmk hlt2, HJ.out], HJ1.out.draw _, HJ2.out, HJ3.out, below_draw HJ4.out _⟩
                    case measure => simp [intOf]; omega
                  · have hjm2 : j = m := by omega
                    subst hjm2
                    have hS2 : S = sumL (l.drop (k - j)) := by rw [HJ.out, List.take_of_length_le (by rw [List.length_drop]; have := HL.out; omega)]
                    have hS3 : sumS ((esOf eb l k).drop (k - j)) = S := by rw [sumS_drop HL.out _ (by omega), hS2]
                    have e1 : sumS es = S + z := by rw [← HES.out, sumS_append, hS3]; simp [sumS]
                    rw [e1] at HJ1
                    have HX : Hid (es[j]? = some (en, z)) := by rw [← HES.out]; exact held_last (eb := eb) (l := l) (en, z) hmk
                    have hfit : S + z ≤ hby := by have := HT.out.1; rw [hS3] at this; exact this
                    have hd8 : decide (hby < S + z) = false := decide_eq_false (by omega)
                    have HS2 : Hid (S = sumL (l.drop (k - j))) := hS2
                    clear hS2 hS3 e1 hd5 hd6 hd7 hd3 hd4 hd0 hd1 hd2
                    by_cases hjk : j < k
                    · by_cases hje : (j : Int) + 1 < he
                      · obtain ⟨b, off, rfl, hc⟩ := HJ2.out.at HL.out (show k - 1 - j < k by omega)
                        have b1 : (0 : Int) ≤ (k : Int) - 1 - (j : Int) := by omega
                        have b2 : (k : Int) - 1 - (j : Int) < (k : Int) := by omega
                        have b5 : (j : Int) < (k : Int) := by omega
                        have b3 : 0 ≤ l[k - 1 - j]?.getD 0 := HS.out.2 _ (by omega)
                        have b6 : hby < S + z + l[k - 1 - j]?.getD 0 := by
                          have h3 := HT.out.2
                          rw [sumS_drop HL.out _ (by omega), sumL_drop_back HL.out hjk, ← HS2.out] at h3
                          rcases h3 with h3 | h3
                          · omega
                          · have : ¬ (l[k - 1 - j]?.getD 0 + S + z ≤ hby) := fun h => h3 ⟨hje, h⟩
                            omega
                        have b7 : S + l[k - 1 - j]?.getD 0 ≤ by_ := by
                          have p1 := sumL_drop_back HL.out hjk
                          have p2 := part_le (m := j + 1) (j := k) HL.out HS.out.2 (by omega)
                          rw [List.take_of_length_le (by rw [List.length_drop]; have := HL.out; omega), show k - (j + 1) = k - j - 1 by omega] at p2
                          have p3 := HS2.out
                          have p4 := HS.out.1
                          omega
                        go_wp2_with (first | (go_at_call 12; refine (histEvent B (B + 1) es (S + z) j (en, z) _ HJ1.out HX.out).mono ?_; rintro e w' ⟨rfl, rfl⟩) | (go_at_call 13; refine (histSize B (B + 1) es (S + z) j (en, z) _ HJ1.out HX.out).mono ?_; rintro e w' ⟨rfl, rfl⟩) | (go_at_call 11; refine (histBytes B (B + 1) es (S + z) _ HJ1.out).mono ?_; rintro e w' ⟨rfl, rfl⟩))
                        go_ret
                        exact ⟨rfl, HJ4.out⟩
                      · have b5 : (j : Int) < (k : Int) := by omega
                        have b6 : decide ((j : Int) + 1 < he) = false := decide_eq_false (by omega)
                        go_wp2_with (first | (go_at_call 12; refine (histEvent B (B + 1) es (S + z) j (en, z) _ HJ1.out HX.out).mono ?_; rintro e w' ⟨rfl, rfl⟩) | (go_at_call 13; refine (histSize B (B + 1) es (S + z) j (en, z) _ HJ1.out HX.out).mono ?_; rintro e w' ⟨rfl, rfl⟩) | (go_at_call 11; refine (histBytes B (B + 1) es (S + z) _ HJ1.out).mono ?_; rintro e w' ⟨rfl, rfl⟩))
                        go_ret
                        exact ⟨rfl, HJ4.out⟩
                    · have b5 : decide ((j : Int) < (k : Int)) = false := decide_eq_false (by omega)
                      go_wp2_with (first | (go_at_call 12; refine (histEvent B (B + 1) es (S + z) j (en, z) _ HJ1.out HX.out).mono ?_; rintro e w' ⟨rfl, rfl⟩) | (go_at_call 13; refine (histSize B (B + 1) es (S + z) j (en, z) _ HJ1.out HX.out).mono ?_; rintro e w' ⟨rfl, rfl⟩) | (go_at_call 11; refine (histBytes B (B + 1) es (S + z) _ HJ1.out).mono ?_; rintro e w' ⟨rfl, rfl⟩))
                      go_ret
                      exact ⟨rfl, HJ4.out⟩
            · have hbn : (by_ != S) = true := by simpa using hby0
              go_wp2
              go_ret
              exact ⟨rfl, HB2.out⟩
      · by_cases hz0 : z < 0
        · clear hz
          go_wp2
          go_ret
          exact ⟨rfl, HB2.out⟩
        · have hd1 : decide (z < 0) = false := by simp; omega
          have hz1 : 4611686018427387903 < z := by omega
          clear hz
          go_wp2
          go_ret
          exact ⟨rfl, HB2.out⟩
  · by_cases h2 : n ≤ 1048576
    · go_enter Try.func3, Try.ntmps3
      go_wp2_with (go_at_call 6; go_in)
      go_ret
      exact ⟨rfl, Below.refl _ _⟩
    · go_enter Try.func3, Try.ntmps3
      go_wp2_with (go_at_call 6; go_in)
      go_ret
      exact ⟨rfl, Below.refl _ _⟩

theorem own : ownKnob Try.prog.godebug = none := by kernel_rfl
theorem laidOut : laidOutB Try.prog = true := by kernel_rfl

/-- WHAT THE WALK IS TOLD OF A SLICE OF INTEGERS THAT CAME IN: it is nil; or it leads to a row of 'cap' cells, the numbers 'zs' (the first 'len' are its elements, the rest its spare room), each fitting its kind. -/
def IsRow (k : IntKind) (w : World) (a : Option Addr) (len cap : Nat) (zs : List Int) : Prop :=
  (a = none ∧ len = 0 ∧ cap = 0 ∧ zs = []) ∨
  ∃ x, a = some x ∧ len ≤ cap ∧ cap ≤ maxLen ∧ zs.length = cap ∧ (∀ i, i < zs.length → w.cell? (x.add i) = some (.int k (zs.getD i 0))) ∧ ∀ n ∈ zs, (Lit.int k n).wf = true

/-! ### STEP 1: THE WALK: the Go text returns true, AND WRITES NOTHING THAT WAS THERE: 'Below w.heap.size w w'' (Derived/Below.lean: '.refl', '.alloc', '.drew', '.setCell' at a new block, '.trans'). Open each 'IsRow' by 'rcases' AHEAD of 'go_enter'; part every test ahead of the walk. -/
theorem walk (a0 : Option Addr) (len0 cap0 : Nat) (z0 : List Int) (a1 : Int) (a2 : Int) (a3 : Int) (a4 : Int) (w : World) (w0 : IsRow .i64 w a0 len0 cap0 z0) (w1 : (Lit.int .i64 a1).wf = true) (w2 : (Lit.int .i64 a2).wf = true) (w3 : (Lit.int .i64 a3).wf = true) (w4 : (Lit.int .i64 a4).wf = true) :
    Calls Try.prog 3 #[.slice a0 len0 cap0, .int .i64 a1, .int .i64 a2, .int .i64 a3, .int .i64 a4] w fun e w' => e = .returned (.bool true) ∧ Below w.heap.size w w' := by
  obtain ⟨hl, ha, hr, _⟩ := row_of w0
  exact top3 a0 len0 cap0 _ a1 a2 a3 a4 w hl ha hr

/-! ### THE ROW's STEP: WRITTEN OUT: LEAVE IT -/
set_option maxRecDepth 100000 in
theorem lifted (os : Os) (started : os.Started) (H : Type) (enc : TypeId × Value → H) :
    ReturnsInHanded {} Try.checked os 3 .any (Rows.fnAddKeepsLongestFittingSuffixSpec.pre6 enc Try.prog Try.f3 Rows.fnAddKeepsLongestFittingSuffixRow.domain false) (Rows.fnAddKeepsLongestFittingSuffixSpec.post enc Try.prog Try.f3 false true false false) := by
  refine returnsInHanded_of_change (C := Try.checked) own started (by kernel_rfl) Try.func3
    (ChangeSpec.witness6 (enc := enc) (C := Try.checked) false ⟨#[], #[.slice none 0 0, .int .i64 0, .int .i64 0, .int .i64 0, .int .i64 0], []⟩ 8 (by kernel_rfl) (by kernel_rfl) (by kernel_rfl) (by kernel_rfl)) ?_
  intro W base args ds gs before hval0 hW hcnd _
  have hval : ∀ (j : Nat) t v, Try.f3.params[j]? = some t → args[j]? = some v → Value.okWide Try.prog W .any base t v := hval0
  have hW' := hW
  obtain ⟨p, q, hA0, hV, rfl, hfz, hnd⟩ := hW
  have hA : DataW.TrodAll enc Try.prog W 0 (fun _ => true) true Try.f3.params.toList args.toList ds p := hA0
  rw [Try.params3] at hA hval
  obtain ⟨v0, vs0, d0, ds0, p0, q0, hargs, rfl, rfl, h0, r0⟩ := trodAll_cons hA
  obtain ⟨v1, vs1, d1, ds1, p1, q1, rfl, rfl, rfl, h1, r1⟩ := trodAll_cons r0
  obtain ⟨v2, vs2, d2, ds2, p2, q2, rfl, rfl, rfl, h2, r2⟩ := trodAll_cons r1
  obtain ⟨v3, vs3, d3, ds3, p3, q3, rfl, rfl, rfl, h3, r3⟩ := trodAll_cons r2
  obtain ⟨v4, vs4, d4, ds4, p4, q4, rfl, rfl, rfl, h4, r4⟩ := trodAll_cons r3
  obtain ⟨rfl, rfl, rfl⟩ := trodAll_nil r4
  obtain rfl : args = #[v0, v1, v2, v3, v4] := by cases args; simp_all
  obtain ⟨rfl, rfl⟩ := trodVars_none hV
  obtain ⟨a0, len0, cap0, rfl⟩ := okWide_slice Try.underlying22 (hval 0 22 v0 rfl rfl)
  have k0 := h0
  have lt0 : ∀ x ∈ p0, x.block < W.heap.size := by obtain ⟨m, hm⟩ := k0; exact DataW.trod_lt m _ _ _ hm
  obtain ⟨z0, w0⟩ : ∃ zs, IsRow .i64 W a0 len0 cap0 zs := by
    obtain ⟨fuel, hf⟩ := h0
    rcases open_ints Try.underlying22 Try.underlying3 (by kernel_rfl) hf with ⟨hcs, _⟩ | ⟨x, l, c, zs, hcs, _, hl, hm, hz, _, hcell, hwz⟩
    · simp [Value.cells] at hcs
      obtain ⟨rfl, rfl, rfl⟩ := hcs
      exact ⟨[], .inl ⟨rfl, rfl, rfl, rfl⟩⟩
    · simp [Value.cells] at hcs
      obtain ⟨rfl, rfl, rfl⟩ := hcs
      exact ⟨zs, .inr ⟨_, rfl, hl, hm, by simpa using hz, hcell, hwz⟩⟩
  obtain ⟨a1, rfl, rfl, rfl, w1⟩ := open_int Try.underlying3 (hval 1 3 v1 rfl rfl) h1
  obtain ⟨a2, rfl, rfl, rfl, w2⟩ := open_int Try.underlying3 (hval 2 3 v2 rfl rfl) h2
  obtain ⟨a3, rfl, rfl, rfl, w3⟩ := open_int Try.underlying3 (hval 3 3 v3 rfl rfl) h3
  obtain ⟨a4, rfl, rfl, rfl, w4⟩ := open_int Try.underlying3 (hval 4 3 v4 rfl rfl) h4
  clear hA0 hval0
  refine (walk a0 len0 cap0 z0 a1 a2 a3 a4 W w0 w1 w2 w3 w4).mono fun e W' ⟨he, bel⟩ => ?_
  subst he
  exact ⟨_, rfl, _, _, _, [], _, [], hW', trodAll_mk1 (shut_bool Try.underlying4 _), (trodAll_cons_mk (Below.trod laidOut (by kernel_rfl) (of_decide_eq_true (by kernel_rfl)) k0 bel lt0) (trodAll_cons_mk (shut_int Try.underlying3 w1) (trodAll_cons_mk (shut_int Try.underlying3 w2) (trodAll_cons_mk (shut_int Try.underlying3 w3) (trodAll_cons_mk (shut_int Try.underlying3 w4) trodAll_mk0))))), rfl, bel.frame _, fun h => by cases h⟩

theorem over : Rows.fnAddKeepsLongestFittingSuffixRow.holds Try.pinned (OpenSpec.ofChange Rows.fnAddKeepsLongestFittingSuffixSpec) :=
  OpenClaim.holds_of_wide 3 Try.f3 rfl rfl rfl rfl rfl rfl rfl ⟨rfl, rfl, rfl, rfl, rfl⟩ rfl rfl rfl rfl rfl (by kernel_rfl) Try.func3 (by kernel_rfl)
    (of_decide_eq_true (by kernel_rfl)) (by unfold Func.isWrapper; first | (rw [if_pos (by decide +kernel)]; kernel_rfl) | (rw [if_neg (by decide +kernel)]; exact ⟨rfl, rfl⟩))
    (fun os started H enc _ => lifted os started H enc)

/-- ████ THE STATEMENT ████ -/
theorem proved : Rows.FnAddKeepsLongestFittingSuffixSaid := over
#print axioms proved
end Go.Proofs.Qxb6618173a.fnAddKeepsLongestFittingSuffix
