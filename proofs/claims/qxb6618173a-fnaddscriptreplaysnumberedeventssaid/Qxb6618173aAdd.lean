/-
  history.add (function 18) and ZZAdd (function 9).
-/
import Derived.Test.Qxb6618173aAddParts
namespace Go.Proofs.Qxb6618173a
open Go.RowKit

set_option maxHeartbeats 4000000 in
theorem add_loop (B hb e : Nat) (es : List (Nat × Int)) (z he hby : Int) (w : World) (h : Hist w B hb es (sumS es)) (hB : B ≤ w.heap.size) (hlen : es.length ≤ 65536) (hnn : nonneg es) (hz : 0 ≤ z) (hsum : sumS es + z ≤ 4611686018427387903)
    (h1 : 1 ≤ he) (h2 : z ≤ hby) :
    Calls Try.prog 18 #[.pointer (some ⟨hb, 0, none⟩), .pointer (some ⟨e, 0, none⟩), .int .i64 z, .agg #[.int .i64 he, .int .i64 hby]] w fun en w' => en = .returned (.tuple #[]) ∧
      Hist w' B hb (trim he hby z es ++ [(e, z)]) (sumS (trim he hby z es) + z) ∧ Keeps B w w' := by
  have HH : Hid (Hist w B hb es (sumS es)) := h
  have HN : Hid (nonneg es ∧ sumS es + z ≤ 4611686018427387903) := ⟨hnn, hsum⟩
  have hd1 : decide (he < 1) = false := by simp; omega
  have hd2 : decide (hby < z) = false := by simp; omega
  clear h hnn hsum
  go_enter Try.func18, Try.ntmps18
  go_wp2
  go_loopg [] es.length (fun gk wr => ∃ fs : List (Nat × Int), fs.length = gk ∧ gk ≤ es.length ∧ Hist wr B hb fs (sumS fs) ∧ trim he hby z fs = trim he hby z es ∧ nonneg fs ∧ sumS fs + z ≤ 4611686018427387903 ∧ wr.heap[w.heap.size]? = some (cfgObj he hby) ∧ Keeps B w wr)
  case atStart => exact ⟨es, rfl, Nat.le_refl _, HH.out.alloc _, rfl, HN.out.1, HN.out.2, heap_alloc_new _ _, (Keeps.refl _ _).alloc hB _⟩
  case round =>
    obtain ⟨fs, hfl, hgk, hhist', htrim, hnn, hsum, hcfg, hkeep⟩ := hrel
    have HT : Hid (trim he hby z fs = trim he hby z es) := htrim
    have HK : Hid (Keeps B w wr) := hkeep
    have HS : Hid (Hist wr B hb fs (sumS fs)) := hhist'
    have hhist := hhist'
    clear hhist'
    have HF : Hid (nonneg fs ∧ wr.heap[w.heap.size]? = some (cfgObj he hby) ∧ fs.length = gk) := ⟨hnn, hcfg, hfl⟩
    have hs0 := sumS_nonneg hnn
    have k0 : wr.cell? ⟨w.heap.size, 0, none⟩ = some (.int .i64 he) := by rw [cell_of_heap hcfg]; rfl
    have k1 : wr.cell? ⟨w.heap.size, 1, none⟩ = some (.int .i64 hby) := by rw [cell_of_heap hcfg]; rfl
    by_cases hstay : (fs.length : Int) < he ∧ sumS fs + z ≤ hby
    · obtain ⟨hBh, v, hv, hsl⟩ := hhist
      obtain ⟨a, m, cap, rfl, hm⟩ : ∃ a m cap, v = .slice a m cap ∧ m = fs.length := by
        rcases hsl with ⟨rfl, a, rfl⟩ | ⟨g, o, cap, C, rfl, _⟩
        · exact ⟨a, 0, 0, rfl, rfl⟩
        · exact ⟨_, _, cap, rfl, rfl⟩
      have HL : Hid (HSl wr B (.slice a m cap) fs) := hsl
      have HV : Hid (wr.heap[hb]? = some (.cells #[.slice a m cap, .int .i64 (sumS fs)] 49 (0, 0))) := hv
      have c0 : wr.cell? ⟨hb, 0, none⟩ = some (.slice a m cap) := by rw [cell_of_heap hv]; rfl
      have c1 : wr.cell? ⟨hb, 1, none⟩ = some (.int .i64 (sumS fs)) := by rw [cell_of_heap hv]; rfl
      have z0 := frozen_of_heap hv 0
      have z1 := frozen_of_heap hv 1
      obtain ⟨sx, hsx⟩ : ∃ sx, sumS fs = sx := ⟨_, rfl⟩
      rw [hsx] at c1 hsum hs0 hstay
      rw [← hm] at hstay
      obtain ⟨hst1, hst2⟩ := hstay
      have HX : Hid (sumS fs = sx ∧ m = fs.length) := ⟨hsx, hm⟩
      have hm6 : m ≤ 65536 := by omega
      have hhs := lt_of_heap hv
      have hBw := HK.out.below.size
      have hd3 : decide (he ≤ (m : Int)) = false := by simp; omega
      have HTT : Hid (trim he hby z fs = fs) := trim_keep ⟨by rw [← hm]; exact hst1, by rw [hsx]; exact hst2⟩
      clear htrim hkeep hcfg hfl hnn hv hsl hm hsx hd1 hd2
      go_wp2
      go_quiet (fail)
      go_wp2_with (at_builtin; refine wpList_append_held _ (by rfl) _ _ (by rfl) B (.slice a m cap) fs e wr.heap.size z (by rfl) (by rfl) ?_ ?_ ?_ ?_ ?_)
      · exact HL.out.keep (fun b C h => (heap_alloc_old (wr.drewN nq) _ (lt_of_heap h)).trans h)
      · simp; omega
      · have := HX.out.2; omega
      · exact heap_alloc_new (wr.drewN nq) _
      intro v' w2 H1 H2 H3
      have hv2 : w2.heap[hb]? = some (.cells #[.slice a m cap, .int .i64 (sumS fs)] 49 (0, 0)) := H3.out _ _ ((heap_alloc_old (wr.drewN nq) _ hhs).trans HV.out) (no47 (by decide))
      have d0 : w2.cell? ⟨hb, 0, none⟩ = some (.slice a m cap) := by rw [cell_of_heap hv2]; rfl
      have d1 : w2.cell? ⟨hb, 1, none⟩ = some (.int .i64 sx) := by rw [cell_of_heap hv2, HX.out.1]; rfl
      have y0 := frozen_of_heap hv2 0
      have y1 := frozen_of_heap hv2 1
      obtain ⟨a', m', cap', hv'⟩ : ∃ a m cap, v' = .slice a m cap := by
        rcases H1.out with ⟨_, a, h⟩ | ⟨g, o, cap, C, h, _⟩
        · exact ⟨a, 0, 0, h⟩
        · exact ⟨_, _, cap, h⟩
      subst hv'
      have HV2 : Hid (w2.heap[hb]? = some (.cells #[.slice a m cap, .int .i64 (sumS fs)] 49 (0, 0))) := hv2
      clear hv2 c0 c1 z0 z1 k0 k1 hhs
      go_wp2
      go_end0
      have hkk : Keeps B w w2 := ((HK.out.draw nq).alloc (by simp; omega) _).trans (keeps_of H2.out H3.out)
      have hpe := push_end (t := sx + z) hBh H1.out HV2.out hkk
      have e1 : trim he hby z es = fs := HT.out.symm.trans HTT.out
      rw [e1, HX.out.1]
      exact ⟨rfl, hpe.1, hpe.2⟩
    · cases fs with
      | nil => simp [sumS] at hstay; omega
      | cons x r =>
        obtain ⟨g, o, cap, C, hv, hBh, hBg, hg, hlc, hC, hc⟩ := hhist.cons
        have HO : Hid (wr.heap[hb]? = some (.cells #[.slice (some ⟨g, o, none⟩) (r.length + 1) cap, .int .i64 (sumS (x :: r))] 49 (0, 0)) ∧ wr.heap[g]? = some (.cells C 47 (0, 0)) ∧ r.length + 1 ≤ cap ∧ o + 2 * cap ≤ C.size ∧ (∀ j, j < 2 * (r.length + 1) → C[o + j]? = some (hcell (x :: r) j))) := ⟨hv, hg, hlc, hC, hc⟩
        have hne : ¬ g = hb := fun e => by rw [e, hv] at hg; cases hg
        have hne' : ¬ hb = g := fun e => hne e.symm
        have c0 : wr.cell? ⟨hb, 0, none⟩ = some (.slice (some ⟨g, o, none⟩) (r.length + 1) cap) := by rw [cell_of_heap hv]; rfl
        have c1 : wr.cell? ⟨hb, 1, none⟩ = some (.int .i64 (sumS (x :: r))) := by rw [cell_of_heap hv]; rfl
        have z0 := frozen_of_heap hv 0
        have z1 := frozen_of_heap hv 1
        have c2 : wr.cell? ⟨g, o, none⟩ = some (.pointer (some ⟨x.1, 0, none⟩)) := by
          have := hc 0 (by omega)
          rw [cell_of_heap hg]; rw [Nat.add_zero] at this; rw [this]; exact congrArg some (hcell_even (i := 0) rfl)
        have c3 : wr.cell? ⟨g, o + 1, none⟩ = some (.int .i64 x.2) := by
          rw [cell_of_heap hg, hc 1 (by omega)]; exact congrArg some (hcell_odd (i := 0) rfl)
        have z2 := frozen_of_heap hg o
        have z3 := frozen_of_heap hg (o + 1)
        have hx0 := nonneg_head hnn
        have hr0 := sumS_nonneg (nonneg_tail hnn)
        have HD : Hid (¬ (((x :: r).length : Int) < he ∧ sumS (x :: r) + z ≤ hby)) := hstay
        have hst2 : he ≤ (r.length : Int) + 1 ∨ ((r.length : Int) + 1 < he ∧ hby < sumS (x :: r) + z) := by
          simp only [List.length_cons, Int.natCast_add, Int.natCast_one] at hstay
          omega
        have hxs : x.2 ≤ sumS (x :: r) := by simp only [sumS]; omega
        obtain ⟨sx, hsx⟩ : ∃ sx, sumS (x :: r) = sx := ⟨_, rfl⟩
        obtain ⟨m, hm⟩ : ∃ m, r.length + 1 = m := ⟨_, rfl⟩
        obtain ⟨x2, hx2⟩ : ∃ x2, x.2 = x2 := ⟨_, rfl⟩
        rw [hsx] at hxs hst2 c1 hs0 hsum
        rw [hm] at c0
        rw [hx2] at hxs c3 hx0
        have hmi : (r.length : Int) + 1 = (m : Int) := by omega
        rw [hmi] at hst2
        have hm6 : m ≤ 65536 := by simp only [List.length_cons] at hfl; omega
        have HM : Hid (r.length + 1 = m ∧ sumS (x :: r) = sx ∧ x.2 = x2) := ⟨hm, hsx, hx2⟩
        have hm1 : (1 : Int) ≤ (m : Int) := by omega
        have hcap : (1 : Int) ≤ (cap : Int) := by omega
        have hmc : (m : Int) ≤ (cap : Int) := by omega
        clear hstay hhist htrim hkeep hcfg hfl hnn hv hg hC hc hm hmi hd1 hd2 hsx hx2 hr0 hlc
        by_cases hcp : cap - 1 = 0
        · have hc1 : cap = 1 := by omega
          subst hc1
          rcases hst2 with hst3 | ⟨hst3, hst4⟩
          · go_wp2
            go_quiet (fail)
            go_wp2
            go_region
            all_goals
              go_wp2
              go_roundg r.length
              case measure => have := HF.out.2.2; simp at this; omega
              case rel =>
                have hp := pop_step (cap := 1) (nq := nq + 1) HO HM HK hBh hBg hne HF.out.2.1 (some ⟨g, o, none⟩) rfl
                exact ⟨r, rfl, by have := HF.out.2.2; simp at this; omega, hp.1, (trim_drop HD.out).symm.trans HT.out, nonneg_tail HF.out.1, by have := HM.out.2.1; simp only [sumS] at this; have := HM.out.2.2; omega, hp.2.1, hp.2.2⟩
          · have hd3 : decide (he ≤ (m : Int)) = false := by simp; omega
            go_wp2
            go_quiet (fail)
            go_wp2
            go_region
            all_goals
              go_wp2
              go_roundg r.length
              case measure => have := HF.out.2.2; simp at this; omega
              case rel =>
                have hp := pop_step (cap := 1) (nq := nq + 1) HO HM HK hBh hBg hne HF.out.2.1 (some ⟨g, o, none⟩) rfl
                exact ⟨r, rfl, by have := HF.out.2.2; simp at this; omega, hp.1, (trim_drop HD.out).symm.trans HT.out, nonneg_tail HF.out.1, by have := HM.out.2.1; simp only [sumS] at this; have := HM.out.2.2; omega, hp.2.1, hp.2.2⟩
        · rcases hst2 with hst3 | ⟨hst3, hst4⟩
          · go_wp2
            go_quiet (fail)
            go_wp2
            go_region
            all_goals
              go_wp2
              go_roundg r.length
              case measure => have := HF.out.2.2; simp at this; omega
              case rel =>
                have hp := pop_step (nq := nq + 1) HO HM HK hBh hBg hne HF.out.2.1 (some ⟨g, o + 2, none⟩) (by rw [if_neg hcp])
                exact ⟨r, rfl, by have := HF.out.2.2; simp at this; omega, hp.1, (trim_drop HD.out).symm.trans HT.out, nonneg_tail HF.out.1, by have := HM.out.2.1; simp only [sumS] at this; have := HM.out.2.2; omega, hp.2.1, hp.2.2⟩
          · have hd3 : decide (he ≤ (m : Int)) = false := by simp; omega
            go_wp2
            go_quiet (fail)
            go_wp2
            go_region
            all_goals
              go_wp2
              go_roundg r.length
              case measure => have := HF.out.2.2; simp at this; omega
              case rel =>
                have hp := pop_step (nq := nq + 1) HO HM HK hBh hBg hne HF.out.2.1 (some ⟨g, o + 2, none⟩) (by rw [if_neg hcp])
                exact ⟨r, rfl, by have := HF.out.2.2; simp at this; omega, hp.1, (trim_drop HD.out).symm.trans HT.out, nonneg_tail HF.out.1, by have := HM.out.2.1; simp only [sumS] at this; have := HM.out.2.2; omega, hp.2.1, hp.2.2⟩

set_option maxHeartbeats 1000000 in
theorem add_none (B hb e : Nat) (es : List (Nat × Int)) (by_ z he hby : Int) (w : World) (h : Hist w B hb es by_) (hB : B ≤ w.heap.size) (hno : he < 1 ∨ hby < z) :
    Calls Try.prog 18 #[.pointer (some ⟨hb, 0, none⟩), .pointer (some ⟨e, 0, none⟩), .int .i64 z, .agg #[.int .i64 he, .int .i64 hby]] w fun en w' => en = .returned (.tuple #[]) ∧
      Hist w' B hb [] 0 ∧ Keeps B w w' := by
  obtain ⟨hBh, v, hv0, hsl0⟩ := h
  obtain ⟨a, m, cap, rfl⟩ : ∃ a m cap, v = .slice a m cap := by
    rcases hsl0 with ⟨_, a, h⟩ | ⟨g, o, cap, C, h, _⟩
    · exact ⟨a, 0, 0, h⟩
    · exact ⟨_, _, cap, h⟩
  have hv : (w.alloc (cfgObj he hby)).heap[hb]? = some (.cells #[.slice a m cap, .int .i64 by_] 49 (0, 0)) := by rw [heap_alloc_old _ _ (lt_of_heap hv0)]; exact hv0
  have hsl : HSl (w.alloc (cfgObj he hby)) B (.slice a m cap) es := hsl0.keep (fun b C h => by rw [heap_alloc_old _ _ (lt_of_heap h)]; exact h)
  have hz0 := lt_of_heap hv0
  obtain ⟨w2, hrun, hbel, hsz, hk⟩ := run_clear_held B (.slice a m cap) es 0 (w.alloc (cfgObj he hby)) hsl
  have hcl : (Builtin.clear_ #[45] 0 #[.slice a m cap]).run Try.prog (w.alloc (.cells #[.int .i64 he, .int .i64 hby] 35)) = .ok (.tuple #[]) w2 := hrun
  have hv2 : w2.heap[hb]? = some (.cells #[.slice a m cap, .int .i64 by_] 49 (0, 0)) := hk _ _ hv (no47 (by decide))
  have HV2 : Hid (w2.heap[hb]? = some (.cells #[.slice a m cap, .int .i64 by_] 49 (0, 0))) := hv2
  have HK : Hid (Keeps B w w2) := ((Keeps.refl B w).alloc hB _).trans (keeps_of hbel hk)
  have c0 : w.cell? ⟨hb, 0, none⟩ = some (.slice a m cap) := by rw [cell_of_heap hv0]; rfl
  have d0 : w2.cell? ⟨hb, 0, none⟩ = some (.slice a m cap) := by rw [cell_of_heap hv2]; rfl
  have d1 : w2.cell? ⟨hb, 1, none⟩ = some (.int .i64 by_) := by rw [cell_of_heap hv2]; rfl
  have y0 := frozen_of_heap hv2 0
  have y1 := frozen_of_heap hv2 1
  clear hv hsl hsl0 hrun hbel hk hv2 hsz
  clear hv0
  have HP : Hid (Hist ((w2.setCell ⟨hb, 0, none⟩ (.slice none 0 0)).setCell ⟨hb, 1, none⟩ (.int .i64 0)) B hb [] 0 ∧ Keeps B w ((w2.setCell ⟨hb, 0, none⟩ (.slice none 0 0)).setCell ⟨hb, 1, none⟩ (.int .i64 0))) :=
    push_end hBh (.inl ⟨rfl, none, rfl⟩) HV2.out HK.out
  by_cases h1 : he < 1
  · clear hno
    go_enter Try.func18, Try.ntmps18
    go_wp2
    refine bodyPost_ret (results_none rfl _ _ _) rfl ?_
    exact ⟨rfl, HP.out⟩
  · have h2 : hby < z := by omega
    have hd1 : decide (he < 1) = false := by simp; omega
    clear hno
    go_enter Try.func18, Try.ntmps18
    go_wp2
    refine bodyPost_ret (results_none rfl _ _ _) rfl ?_
    exact ⟨rfl, HP.out⟩

theorem sumS_append (es fs : List (Nat × Int)) : sumS (es ++ fs) = sumS es + sumS fs := by
  induction es with
  | nil => simp [sumS]
  | cons x r ih => simp only [List.cons_append, sumS, ih]; omega

set_option maxHeartbeats 1000000 in
theorem zzAdd (B hb e : Nat) (es : List (Nat × Int)) (z he hby : Int) (w : World) (h : Hist w B hb es (sumS es)) (hB : B ≤ w.heap.size) (hlen : es.length ≤ 65536) (hnn : nonneg es) (hz : 0 ≤ z) (hsum : sumS es + z ≤ 4611686018427387903) :
    Calls Try.prog 9 #[.pointer (some ⟨hb, 0, none⟩), .pointer (some ⟨e, 0, none⟩), .int .i64 z, .agg #[.int .i64 he, .int .i64 hby]] w fun en w' => en = .returned (.tuple #[]) ∧
      Hist w' B hb (added he hby es (e, z)) (sumS (added he hby es (e, z))) ∧ Keeps B w w' := by
  have h' : Hist (w.alloc (cfgObj he hby)) B hb es (sumS es) := h.alloc _
  have HH : Hid (Hist (w.alloc (.cells #[.int .i64 he, .int .i64 hby] 35)) B hb es (sumS es)) := h'
  have HN : Hid (nonneg es ∧ sumS es + z ≤ 4611686018427387903) := ⟨hnn, hsum⟩
  have HK : Hid (Keeps B w (w.alloc (.cells #[.int .i64 he, .int .i64 hby] 35))) := (Keeps.refl B w).alloc hB _
  clear h h' hnn hsum
  by_cases hno : he < 1 ∨ hby < z
  · have HO : Hid (he < 1 ∨ hby < z) := hno
    clear hno
    go_enter Try.func9, Try.ntmps9
    go_wp2_with fail
    refine (add_none B hb e es _ z he hby _ HH.out (by simp; omega) HO.out).mono ?_
    rintro en w1 ⟨rfl, hh, hk⟩
    have HH2 : Hid (Hist w1 B hb [] 0) := hh
    have HK2 : Hid (Keeps B w w1) := HK.out.trans hk
    clear hh hk
    go_wp2
    go_end0
    rw [show added he hby es (e, z) = [] from if_pos HO.out]
    exact ⟨rfl, HH2.out, HK2.out⟩
  · have h1 : 1 ≤ he := by omega
    have h2 : z ≤ hby := by omega
    have HO : Hid (¬ (he < 1 ∨ hby < z)) := hno
    clear hno
    go_enter Try.func9, Try.ntmps9
    go_wp2_with fail
    refine (add_loop B hb e es z he hby _ HH.out (by simp; omega) hlen HN.out.1 hz HN.out.2 h1 h2).mono ?_
    rintro en w1 ⟨rfl, hh, hk⟩
    have HH2 : Hid (Hist w1 B hb (trim he hby z es ++ [(e, z)]) (sumS (trim he hby z es) + z)) := hh
    have HK2 : Hid (Keeps B w w1) := HK.out.trans hk
    clear hh hk
    go_wp2
    go_end0
    rw [show added he hby es (e, z) = trim he hby z es ++ [(e, z)] from if_neg HO.out, sumS_append]
    exact ⟨rfl, by simpa [sumS] using HH2.out, HK2.out⟩
end Go.Proofs.Qxb6618173a
