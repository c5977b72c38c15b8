/-
  The walk of FnAddScriptReplaysNumberedEvents (function 5).
-/
import Derived.Test.Qxb6618173aScriptParts
namespace Go.Proofs.Qxb6618173a
open Go.RowKit

set_option maxRecDepth 100000 in
set_option maxHeartbeats 4000000 in
theorem top5 (a : Option Addr) (n cap : Nat) (l : List Int) (he hby since : Int) (w : World) (hl : l.length = n) (hr : Row w a l) (hs0 : 0 ≤ since) :
    Calls Try.prog 5 #[.slice a n cap, .int .i64 he, .int .i64 hby, .int .u64 since] w fun e w' => e = .returned (.bool true) ∧ Below w.heap.size w w' := by
  have HL : Hid (l.length = n) := hl
  have HR : Hid (Row w a l) := hr
  clear hl hr
  by_cases h1 : n ≤ 65536
  · have hd0 : decide (65536 < (n : Int)) = false := by simp; omega
    go_enter Try.func5, Try.ntmps5
    go_wp2_with fail
    refine (zz16 _ _ _ _ _ _ _ (by omega)).mono ?_
    rintro e w1 ⟨rfl, rfl⟩
    go_wp2
    go_loop [10, 11] (fun t i => ∃ (k : Nat) (S : Int), k ≤ n ∧ i = .int .i64 k ∧ t = .int .i64 S ∧ 0 ≤ S ∧ S ≤ 4611686018427387903 ∧ Hid (S = sumL (l.take k) ∧ ∀ i, i < k → 0 ≤ l[i]?.getD 0)) (fun _ i => n - (intOf i).toNat)
    case atStart => exact ⟨0, 0, by omega, rfl, rfl, by omega, by omega, rfl, fun i hi => by omega⟩
    case round =>
      obtain ⟨k, S, hkn, rfl, rfl, hS0, hS1, HS⟩ := hrel
      by_cases hlt : k < n
      · obtain ⟨b, off, rfl, hc⟩ := HR.out.at HL.out hlt
        have b1 : (k : Int) < (n : Int) := by omega
        by_cases hq : 0 ≤ l[k]?.getD 0 ∧ l[k]?.getD 0 ≤ 4611686018427387903 - S
        · obtain ⟨hq0, hq1⟩ := hq
          have he1 : decide (l[k]?.getD 0 < 0) = false := by simp; omega
          go_wp2
          go_round
          case rel =>
            refine ⟨k + 1, _, by omega, by go_num, rfl, by omega, by omega, ?_, fun i hi => ?_⟩
            · rw [sumL_snoc HL.out hlt, HS.out.1]
            · by_cases e : i = k
              · subst e; exact hq0
              · exact HS.out.2 i (by omega)
          case measure => simp [intOf]; omega
        · by_cases hq0 : l[k]?.getD 0 < 0
          · clear hq
            go_wp2
            go_ret
            exact ⟨rfl, Below.refl _ _⟩
          · have he1 : decide (l[k]?.getD 0 < 0) = false := by simp; omega
            have hq1 : 4611686018427387903 - S < l[k]?.getD 0 := by omega
            clear hq
            go_wp2
            go_ret
            exact ⟨rfl, Below.refl _ _⟩
      · have hk : k = n := by omega
        subst hk
        by_cases hsn : since ≤ (k : Int)
        · have hd1 : decide ((k : Int) < since) = false := decide_eq_false (by omega)
          go_wp2_with fail
          refine (mkEvents 1 k _ (by omega) (by omega) h1).mono ?_
          rintro e w2 ⟨rfl, hev, hb2⟩
          have hbc : Below w1.heap.size w1 (w1.alloc (.cells #[.int .i64 he, .int .i64 hby] 35)) := (Below.refl _ _).alloc (Nat.le_refl _) _
          have HP2 : Hid (Pre w1 w2 a l (w1.heap.size + 1) w1.heap.size k he hby) :=
            ⟨(HR.out.below hbc).below hb2, by simpa using hev, by rw [hb2.block _ (by simp)]; exact heap_alloc_new _ _, hbc.trans (hb2.mono hbc.size)⟩
          rw [World.size_alloc]
          clear hbc hb2 hev HR
          obtain ⟨eb, heb⟩ : ∃ eb, w1.heap.size + 1 = eb := ⟨_, rfl⟩
          rw [heb] at HP2 ⊢
          obtain ⟨cb, hcb⟩ : ∃ cb, w1.heap.size = cb := ⟨_, rfl⟩
          have HC : Hid (w1.heap.size = cb) := hcb
          rw [show Pre w1 w2 a l eb w1.heap.size k he hby = Pre w1 w2 a l eb cb k he hby by rw [hcb]] at HP2
          rw [hcb]
          clear heb hcb
          go_wp2_with fail
          refine (newHist w2.heap.size w2 (Nat.le_refl _)).mono ?_
          rintro e w3 ⟨rfl, hh, hb3⟩
          have HQ : Hid (Pre w1 w3 a l eb cb k he hby ∧ Below w2.heap.size w2 w3 ∧ Hist w3 w2.heap.size w2.heap.size [] 0) := ⟨HP2.out.later hb3, hb3, hh⟩
          clear hh hb3
          obtain ⟨B, hB⟩ : ∃ B, w2.heap.size = B := ⟨_, rfl⟩
          rw [show (Pre w1 w3 a l eb cb k he hby ∧ Below w2.heap.size w2 w3 ∧ Hist w3 w2.heap.size w2.heap.size [] 0) = (Pre w1 w3 a l eb cb k he hby ∧ Below B w2 w3 ∧ Hist w3 B B [] 0) by rw [hB]] at HQ
          have HBB : Hid (w2.heap.size = B) := hB
          rw [hB]
          clear hB
          go_wp2_with fail
          go_loopw [18] (fun i wr => ∃ j : Nat, j ≤ k ∧ i = .int .i64 j ∧ Hid (Pre w1 wr a l eb cb k he hby ∧ Below B w2 wr ∧ Hist wr B B (best he hby (esOf eb l j)) (sumS (best he hby (esOf eb l j))))) (fun i _ => k - (intOf i).toNat)
          case atStart => exact ⟨0, by omega, rfl, HQ⟩
          case round =>
            obtain ⟨j, hjk, rfl, HW⟩ := hrel
            clear HQ
            by_cases hltj : j < k
            · obtain ⟨b, off, rfl, hc⟩ := HW.out.1.row.at HL.out hltj
              have hce := HW.out.1.evs.1.cell hltj
              have c0 : wr.cell? ⟨cb, 0, none⟩ = some (.int .i64 he) := by rw [cell_of_heap HW.out.1.cfg]; rfl
              have c1 : wr.cell? ⟨cb, 1, none⟩ = some (.int .i64 hby) := by rw [cell_of_heap HW.out.1.cfg]; rfl
              have b0 : (j : Int) < (k : Int) := by omega
              have hpos := HS.out.2 j hltj
              obtain ⟨t1, t2, t3, t4⟩ := script_step (eb := eb) (he := he) (hby := hby) HL.out HS.out hS1 hltj h1
              have hBs : B ≤ wr.heap.size := by have := HW.out.2.1.size; have := HBB.out; omega
              have HC9 : Hid (Calls Try.prog 9 #[.pointer (some ⟨B, 0, none⟩), .pointer (some ⟨eb + 1 + j, 0, none⟩), .int .i64 (l[j]?.getD 0), .agg #[.int .i64 he, .int .i64 hby]] wr.drew fun en w' => en = .returned (.tuple #[]) ∧
                  Hist w' B B (best he hby (esOf eb l (j + 1))) (sumS (best he hby (esOf eb l (j + 1)))) ∧ Keeps B wr w') := by
                have := zzAdd B B (eb + 1 + j) (best he hby (esOf eb l j)) (l[j]?.getD 0) he hby wr.drew HW.out.2.2 hBs t1 t2 hpos t3
                rw [t4] at this
                exact this.mono (fun e w' h => ⟨h.1, h.2.1, (Keeps.refl B wr).drew.trans h.2.2⟩)
              clear t1 t2 t3 t4
              go_wp2
              go_region_with (go_at_call 9; refine (HC9.out).mono ?_; rintro e w4 ⟨rfl, hh4, hk4⟩)
              all_goals
                have HN : Hid (Hist w4 B B (best he hby (esOf eb l (j + 1))) (sumS (best he hby (esOf eb l (j + 1)))) ∧ Keeps B wr w4) := ⟨hh4, hk4⟩
                clear hh4 hk4
                go_wp2
                go_roundw
                case rel =>
                  have hbl : Below B w2 w4 := HW.out.2.1.trans HN.out.2.below
                  exact ⟨j + 1, by omega, by go_num, HP2.out.later (by rw [HBB.out]; exact hbl), hbl, HN.out.1⟩
                case measure => simp [intOf]; omega
            · have hjk2 : j = k := by omega
              subst hjk2
              obtain ⟨es, hes⟩ : ∃ es, best he hby (esOf eb l j) = es := ⟨_, rfl⟩
              have HES : Hid (best he hby (esOf eb l j) = es) := hes
              rw [hes] at HW
              clear hes HP2 hltj hjk
              go_upto_block 4 with fail
              go_cut [19, 20] from 87 to 118 (fun kk t wx => ∃ q : Nat, q ≤ j ∧ kk = .int .i64 q ∧ t = .int .i64 (sumS es) ∧ Hid (es = (esOf eb l j).drop (j - q)) ∧ wx = wr)
              case first =>
                go_wp2_with fail
                go_loop [19, 20] (fun kk t => ∃ (q : Nat) (T : Int), q ≤ j ∧ kk = .int .i64 q ∧ t = .int .i64 T ∧ 0 ≤ T ∧ T ≤ S ∧ Hid (T = sumL (l.drop (j - q)) ∧ (q = 0 ∨ okB he hby ((esOf eb l j).drop (j - q)) = true))) (fun kk _ => j - (intOf kk).toNat)
                case atStart => exact ⟨0, 0, by omega, rfl, rfl, by omega, by omega, by rw [Nat.sub_zero, List.drop_of_length_le (by have := HL.out; omega)]; rfl, .inl rfl⟩
                case round =>
                  obtain ⟨q, T, hqj, rfl, rfl, hT0, hT1, HT⟩ := hrel
                  have hfin : (q = j ∨ he ≤ (q : Int) ∨ hby < l[j - 1 - q]?.getD 0 + T) → sumS es = T ∧ es = (esOf eb l j).drop (j - q) := fun h => by
                    have e1 := end_is (eb := eb) (he := he) (hby := hby) HL.out HS.out.2 hqj HT.out.2 (by rw [← HT.out.1]; exact h)
                    have e2 : es = (esOf eb l j).drop (j - q) := by rw [← HES.out]; exact e1
                    exact ⟨by rw [e2, sumS_drop HL.out _ (by omega)]; exact HT.out.1.symm, e2⟩
                  have HF : Hid ((q = j ∨ he ≤ (q : Int) ∨ hby < l[j - 1 - q]?.getD 0 + T) → sumS es = T ∧ es = (esOf eb l j).drop (j - q)) := hfin
                  clear hfin
                  by_cases hq1 : q < j
                  · obtain ⟨b, off, rfl, hc⟩ := HW.out.1.row.at HL.out (show j - 1 - q < j by omega)
                    have b1 : (0 : Int) ≤ (j : Int) - 1 - (q : Int) := by omega
                    have b2 : (j : Int) - 1 - (q : Int) < (j : Int) := by omega
                    have b3 : (q : Int) < (j : Int) := by omega
                    have b4 : 0 ≤ l[j - 1 - q]?.getD 0 := HS.out.2 _ (by omega)
                    have b5 : T + l[j - 1 - q]?.getD 0 ≤ S := by
                      have p1 := sumL_drop_back HL.out hq1
                      have p2 := part_le (m := q + 1) (j := j) HL.out HS.out.2 (by omega)
                      rw [List.take_of_length_le (by rw [List.length_drop]; have := HL.out; omega), show j - (q + 1) = j - q - 1 by omega] at p2
                      have p3 := HT.out.1
                      have p4 := HS.out.1
                      omega
                    by_cases hq2 : (q : Int) < he
                    · by_cases hq3 : T + l[j - 1 - q]?.getD 0 ≤ hby
                      · go_wp2
                        go_round
                        case rel =>
                          have p1 := sumL_drop_back HL.out hq1
                          rw [show j - q - 1 = j - (q + 1) by omega] at p1
                          refine ⟨q + 1, _, by omega, by go_num, rfl, by omega, by omega, ?_, .inr ((ok_end HL.out (by omega)).2 ⟨by omega, ?_⟩)⟩
                          · rw [p1, ← HT.out.1]; omega
                          · rw [p1, ← HT.out.1]; omega
                        case measure => simp [intOf]; omega
                      · have hq4 : hby < T + l[j - 1 - q]?.getD 0 := by omega
                        go_wp2
                        go_meet
                        case rel =>
                          have e := HF.out (.inr (.inr (by omega)))
                          exact ⟨q, by omega, rfl, by rw [e.1], e.2, rfl⟩
                    · have hq4 : decide ((q : Int) < he) = false := decide_eq_false hq2
                      go_wp2
                      go_meet
                      case rel =>
                        have e := HF.out (.inr (.inl (by omega)))
                        exact ⟨q, by omega, rfl, by rw [e.1], e.2, rfl⟩
                  · have hq4 : decide ((q : Int) < (j : Int)) = false := decide_eq_false (by omega)
                    go_wp2
                    go_meet
                    case rel =>
                      have e := HF.out (.inl (by omega))
                      exact ⟨q, by omega, rfl, by rw [e.1], e.2, rfl⟩
              case rest =>
                obtain ⟨q, hqj, rfl, rfl, HE, rfl⟩ := hcut
                have hlen : es.length = q := by rw [HE.out, List.length_drop, esOf_length]; omega
                have HLn : Hid (es.length = q) := hlen
                have HX : Hid (∀ p, p < q → es[p]? = some (eb + 1 + (j - q + p), l[j - q + p]?.getD 0)) := fun p hp => by rw [HE.out, List.getElem?_drop]; exact esOf_at (by omega)
                have HQ : Hid (Pre w1 wc a l eb cb j he hby ∧ Hist wc B B es (sumS es)) := ⟨HW.out.1, HW.out.2.2⟩
                clear hlen HW HE HES HBB HC
                have hne := neq29_same
                go_wp2_with fail
                refine (histLen B B es (sumS es) _ HQ.out.2).mono ?_
                rintro e w' ⟨rfl, rfl⟩
                rw [HLn.out]
                obtain ⟨se, hse⟩ : ∃ se, sumS es = se := ⟨_, rfl⟩
                rw [hse] at HQ ⊢
                clear hse
                go_wp2_with fail
                refine (histBytes B B es se _ HQ.out.2).mono ?_
                rintro e w' ⟨rfl, rfl⟩
                go_wp2_with fail
                go_loopw [21] (fun i wx => ∃ p : Nat, p ≤ q ∧ i = .int .i64 p ∧ Hid (Pre w1 wx a l eb cb j he hby ∧ Hist wx B B es se)) (fun i _ => q - (intOf i).toNat)
                case atStart => exact ⟨0, by omega, rfl, HQ⟩
                case round =>
                  obtain ⟨p, hpq, rfl, HT⟩ := hrel
                  clear HQ
                  by_cases hp : p < q
                  · obtain ⟨b, off, rfl, hc⟩ := HT.out.1.row.at HL.out (show j - q + p < j by omega)
                    have hce := HT.out.1.evs.1.cell (show j - q + p < j by omega)
                    have HXp : Hid (es[p]? = some (eb + 1 + (j - q + p), l[j - q + p]?.getD 0)) := HX.out p hp
                    have HH : Hid (Hist wr B B es se) := HT.out.2
                    have b1 : (0 : Int) ≤ (j : Int) - (q : Int) + (p : Int) := by omega
                    have b2 : (j : Int) - (q : Int) + (p : Int) < (j : Int) := by omega
                    go_wp2
                    go_quiet ((first | (go_at_call 12; exact Calls.quiet_of_same (histEvent B B _ _ p _ _ (HH.out.draw _) HXp.out)) | (go_at_call 13; exact Calls.quiet_of_same (histSize B B _ _ p _ _ (HH.out.draw _) HXp.out))))
                    go_wp2
                    go_roundw
                    case rel => exact ⟨p + 1, by omega, by go_num, HT.out.1.draw _, HT.out.2.draw _⟩
                    case measure => simp [intOf]; omega
                  · have hpq2 : p = q := by omega
                    subst hpq2
                    obtain ⟨m, d, hm, hd, hm1, hm2, hdm, hmn⟩ := many p since (j : Int) hsn
                    subst hdm
                    have HM : Hid ((since + p < (j : Int) → m = p) ∧ ((j : Int) ≤ since + p → (m : Int) = (j : Int) - since)) := ⟨hm1, hm2⟩
                    obtain ⟨gone, hg⟩ : ∃ gone, gone = (j : Int) - since - (m : Int) := ⟨_, rfl⟩
                    have HG : Hid (gone = (j : Int) - since - (m : Int)) := hg
                    clear hm hd hm1 hm2 hg
                    go_wp2_with fail
                    refine (zzAfter B B p m (p - m) es se since j _ HT.out.2 HLn.out (by omega) hs0 hsn (by omega) (by omega) (by omega) (by omega) HM.out.1 HM.out.2 gone HG.out).mono ?_
                    rintro e w5 ⟨av, capv, rfl, ho, hb5⟩
                    have HO5 : Hid (w5.ownsRow wr.heap.size 29 1 (.slice av m capv) m (ptrs es (p - m) m)) := ho
                    have HH5 : Hid (Hist w5 B B es se) := HT.out.2.below hb5
                    have HP5 : Hid (Pre w1 w5 a l eb cb j he hby) := HT.out.1.later hb5
                    clear ho hb5 HT
                    generalize wr.heap.size = B2 at *
                    go_upto_if 171 with fail
                    go_cut [24, 171] from 172 to 173 (fun s _ wx => s = .int .u64 m ∧ Hid (Stand w1 wx B B eb w5.heap.size B2 j m l a av capv 1 se j gone es))
                    case first =>
                      have hb6 : Below w5.heap.size w5 (w5.alloc (.cells #[.int .u64 j, .int .u64 gone, .slice av m capv] 41)) := (Below.refl _ _).alloc (Nat.le_refl _) _
                      have HSt : Hid (Stand w1 (w5.alloc (.cells #[.int .u64 j, .int .u64 gone, .slice av m capv] 41)) B B eb w5.heap.size B2 j m l a av capv 1 se j gone es) :=
                        ⟨HH5.out.below hb6, HP5.out.row.below hb6, HP5.out.evs.below hb6, by rw [HLn.out]; exact owns_below hb6 HO5.out, heap_alloc_new _ _, HP5.out.below.trans (hb6.mono HP5.out.below.size)⟩
                      clear hb6
                      by_cases hgo : since + p < (j : Int)
                      · have hx : (p : Int) < (j : Int) - since := by omega
                        have HXm : Hid (m = p) := HM.out.1 hgo
                        go_wp2
                        go_meet
                        case rel => exact ⟨by rw [HXm.out], HSt⟩
                      · have hx : ¬ (p : Int) < (j : Int) - since := by omega
                        have HXm : Hid ((m : Int) = (j : Int) - since) := HM.out.2 (by omega)
                        go_wp2
                        go_meet
                        case rel => exact ⟨by rw [HXm.out], HSt⟩
                    case rest =>
                      obtain ⟨rfl, HSt⟩ := hcut
                      have r0 : wc.cell? ⟨w5.heap.size, 0, none⟩ = some (.int .u64 j) := by rw [cell_of_heap HSt.out.r]; rfl
                      have r1 : wc.cell? ⟨w5.heap.size, 1, none⟩ = some (.int .u64 gone) := by rw [cell_of_heap HSt.out.r]; rfl
                      have r2 : wc.cell? ⟨w5.heap.size, 2, none⟩ = some (.slice av m capv) := by rw [cell_of_heap HSt.out.r]; rfl
                      have hgn : (j : Int) - since - (m : Int) = gone := HG.out.symm
                      have hg0 : 0 ≤ (j : Int) - since - (m : Int) := by
                        have p1 := HM.out.1
                        have p2 := HM.out.2
                        omega
                      clear HH5 HP5 HO5
                      obtain ⟨rb, hrb⟩ : ∃ rb, rb = w5.heap.size := ⟨_, rfl⟩
                      rw [← hrb] at r0 r1 r2 HSt ⊢
                      clear hrb
                      go_wp2_with fail
                      clear r0 r1 r2
                      obtain ⟨jm, hjm⟩ : ∃ jm, j - m = jm := ⟨_, rfl⟩
                      have hnum : since + gone = (jm : Int) := by have := HG.out; omega
                      have HJM : Hid (j - m = jm) := hjm
                      clear hjm
                      go_loopw [25] (fun i wx => ∃ t : Nat, t ≤ m ∧ i = .int .i64 t ∧ Hid (Stand w1 wx B B eb rb B2 j m l a av capv 1 se j gone es)) (fun i _ => m - (intOf i).toNat)
                      case atStart => exact ⟨0, by omega, rfl, HSt⟩
                      case round =>
                        obtain ⟨t, htm, rfl, HV⟩ := hrel
                        clear HSt
                        by_cases ht : t < m
                        · have hjt : jm + t < j := by have := HJM.out; omega
                          have hxe : es[es.length - m + t]? = some (eb + 1 + (jm + t), l[jm + t]?.getD 0) := by
                            have := HX.out (p - m + t) (by omega)
                            rw [show j - p + (p - m + t) = jm + t by have := HJM.out; omega] at this
                            rw [HLn.out]; exact this
                          obtain ⟨g, rfl, hc⟩ := HV.out.event ht hxe
                          have hce := HV.out.evs.1.cell hjt
                          have hse : wr.cell? ⟨eb + 1 + (jm + t), 1, none⟩ = some (.int .u64 ((jm : Int) + (t : Int) + 1)) := by
                            rw [cell_of_heap (HV.out.evs.2 _ hjt), show (jm : Int) + (t : Int) + 1 = 1 + ((jm + t : Nat) : Int) by omega]; rfl
                          have r1 : wr.cell? ⟨rb, 1, none⟩ = some (.int .u64 gone) := by rw [cell_of_heap HV.out.r]; rfl
                          have r2 : wr.cell? ⟨rb, 2, none⟩ = some (.slice (some ⟨g, 0, none⟩) m capv) := by rw [cell_of_heap HV.out.r]; rfl
                          have b0 : (t : Int) < (m : Int) := by omega
                          have b1 : (jm : Int) + (t : Int) < (j : Int) := by omega
                          clear hxe
                          go_wp2
                          go_quiet (fail)
                          go_wp2
                          go_roundw
                          case rel => exact ⟨t + 1, by omega, by go_num, HV.out.draw _⟩
                          case measure => simp [intOf]; omega
                        · have r2 : wr.cell? ⟨rb, 2, none⟩ = some (.slice av m capv) := by rw [cell_of_heap HV.out.r]; rfl
                          go_wp2
                          go_ret
                          exact ⟨rfl, HV.out.below⟩
        · have hsn2 : (k : Int) < since := by omega
          go_wp2
          go_ret
          exact ⟨rfl, Below.refl _ _⟩
  · by_cases h2 : n ≤ 1048576
    · go_enter Try.func5, Try.ntmps5
      go_wp2_with (go_at_call 16; go_in)
      go_ret
      exact ⟨rfl, Below.refl _ _⟩
    · go_enter Try.func5, Try.ntmps5
      go_wp2_with (go_at_call 16; go_in)
      go_ret
      exact ⟨rfl, Below.refl _ _⟩
end Go.Proofs.Qxb6618173a
