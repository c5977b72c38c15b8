/-
  drop (function 23).
-/
import Derived.Test.Qxb6618191aDropParts
namespace Go.Proofs.Qxb6618191a
open Go.RowKit

theorem EntY.same {B : Nat} {w w' : World} {e r : Nat} {held of_ ol : Int} {a : Option Addr} {n cap hd : Nat} {rs : List (Int × Int)} (h : EntY B w e r held of_ ol a n cap hd rs) (hh : w'.heap = w.heap) : EntY B w' e r held of_ ol a n cap hd rs :=
  ⟨h.be, h.br, h.ne, by rw [hh]; exact h.he, by rw [hh]; exact h.hr, owns_keep h.own (fun b C hC => by rw [hh]; exact hC)⟩

theorem EntY.cap_le {B : Nat} {w : World} {e r : Nat} {held of_ ol : Int} {a : Option Addr} {n cap hd : Nat} {rs : List (Int × Int)} (h : EntY B w e r held of_ ol a n cap hd rs) : n ≤ cap := by
  rcases h.own.2 with ⟨h1, h2⟩ | ⟨g, cap', cur, hv, hg, hh, h4, _⟩
  · omega
  · injection hv with hv1 _ hv3; omega

theorem EntY.cutFin {B : Nat} {w : World} {e r g : Nat} {held of_ ol : Int} {n cap hd k : Nat} {rs : List (Int × Int)} (h : EntY B w e r held of_ ol (some ⟨g, 0, none⟩) n cap hd (rs.drop k ++ rs.drop (n - k))) (hl : rs.length = n) (hk : k ≤ n) :
    Hid (EntY B ((w.setCell ⟨r, 0, none⟩ (.slice (some ⟨g, 0, none⟩) (n - k) cap)).setCell ⟨r, 1, none⟩ (.int .i64 0)) e r held of_ ol (some ⟨g, 0, none⟩) (n - k) cap 0 (rs.drop k)) := by
  have h1 := (h.setL (n - k) (by omega)).setH 0
  rw [List.take_left' (by rw [List.length_drop]; omega)] at h1
  exact h1

theorem EntY.round {B : Nat} {w : World} {e r : Nat} {held of_ ol : Int} {a : Option Addr} {n cap hd : Nat} {rs : List (Int × Int)} (h : EntY B w e r held of_ ol a n cap hd rs) (x y z : Int) :
    EntY B ((((w.setCell ⟨e, 0, none⟩ (.int .i64 x)).setCell ⟨e, 1, none⟩ (.int .i64 y)).setCell ⟨e, 2, none⟩ (.int .i64 z)).setCell ⟨r, 1, none⟩ (.int .i64 ((hd : Int) + 1))).drew e r x y z a n cap (hd + 1) rs ∧
      Below B w ((((w.setCell ⟨e, 0, none⟩ (.int .i64 x)).setCell ⟨e, 1, none⟩ (.int .i64 y)).setCell ⟨e, 2, none⟩ (.int .i64 z)).setCell ⟨r, 1, none⟩ (.int .i64 ((hd : Int) + 1))).drew := by
  have h1 := (((h.setE.1 x).setE.2.1 y).setE.2.2 z).setH (hd + 1)
  rw [Int.natCast_add, Int.natCast_one] at h1
  exact ⟨h1.same rfl, (((((Below.refl B w).setCell (p := ⟨e, 0, none⟩) h.be _).setCell (p := ⟨e, 1, none⟩) h.be _).setCell (p := ⟨e, 2, none⟩) h.be _).setCell (p := ⟨r, 1, none⟩) h.br _).drew⟩

set_option linter.unusedVariables false in
set_option maxRecDepth 8000 in
set_option maxHeartbeats 4000000 in
theorem drop_yes (B e : Nat) (pos h of_ ol : Int) (rs : List (Int × Int)) (hd : Nat) (A : List (Int × Int)) (w : World) (hE : Ent B w e h of_ ol true rs hd) (hS : DropS A pos rs hd 0 h of_ ol rs hd) (hA : A.length ≤ 100000) (hR : rs.length ≤ 65536) :
    Calls Try.prog 23 #[.pointer (some ⟨e, 0, none⟩), .int .i64 pos] w fun x w' => x = .returned (.tuple #[]) ∧ (∃ h' of' ol' rs' hd', Ent B w' e h' of' ol' true rs' hd' ∧ DropD A pos rs hd h' of' ol' rs' hd') ∧ Below B w w' := by
  obtain ⟨r0, a0, cap0, hY⟩ := EntY.of hE
  have HY0 : Hid (EntY B w e r0 h of_ ol a0 rs.length cap0 hd rs) := hY
  have HS0 : Hid (DropS A pos rs hd 0 h of_ ol rs hd) := hS
  clear hE hS hY
  go_enter Try.func23, Try.ntmps23
  go_wp2
  go_loopg [4] A.length (fun gk _ wr => ∃ (i r : Nat) (a : Option Addr) (n cap hd' : Nat) (h' of' ol' : Int) (rs' : List (Int × Int)), gk + i = A.length ∧ Hid (EntY B wr e r h' of' ol' a n cap hd' rs') ∧ Hid (DropS A pos rs hd i h' of' ol' rs' hd') ∧ Hid (Below B w wr))
  case atStart => exact ⟨0, r0, a0, rs.length, cap0, hd, h, of_, ol, rs, rfl, HY0, HS0, Below.refl _ _⟩
  case round =>
    obtain ⟨i, r, a, n, cap, hd', h', of', ol', rs', hgi, HY, HS, HB⟩ := hrel
    have hY := HY.out
    have c0 : wr.cell? ⟨e, 0, none⟩ = some (.int .i64 h') := by rw [cell_of_heap hY.he]; rfl
    have c1 : wr.cell? ⟨e, 1, none⟩ = some (.int .i64 of') := by rw [cell_of_heap hY.he]; rfl
    have c2 : wr.cell? ⟨e, 2, none⟩ = some (.int .i64 ol') := by rw [cell_of_heap hY.he]; rfl
    have c3 : wr.cell? ⟨e, 3, none⟩ = some (.pointer (some ⟨r, 0, none⟩)) := by rw [cell_of_heap hY.he]; rfl
    have d0 : wr.cell? ⟨r, 0, none⟩ = some (.slice a n cap) := by rw [cell_of_heap hY.hr]; rfl
    have d1 : wr.cell? ⟨r, 1, none⟩ = some (.int .i64 hd') := by rw [cell_of_heap hY.hr]; rfl
    have f0 := frozen_of_heap hY.he 0
    have f1 := frozen_of_heap hY.he 1
    have f2 := frozen_of_heap hY.he 2
    have f3 := frozen_of_heap hY.hr 0
    have f4 := frozen_of_heap hY.hr 1
    have hne := hY.ne
    have hne2 := hY.ne.symm
    have hcnt := HS.out.count
    have hlen := hY.len
    have hrl := HS.out.len
    have hhd := HS.out.hd_le
    rw [hlen] at hcnt hrl hhd
    have hn6 : n ≤ 65536 := by omega
    have hh1 : 1 ≤ h' := by omega
    have hh2 : h' ≤ 65537 := by omega
    have HC : Hid (h' = (n : Int) - hd' + 1 ∧ rs'.length = n ∧ gk + i = A.length) := ⟨hcnt, hlen, hgi⟩
    clear hY hrl hcnt hlen hgi
    by_cases hp : ol' < pos
    · by_cases h1 : h' - 1 = 0
      · have h1' : (h' - 1 == 0) = true := beq_iff_eq.2 h1
        have h2 : h' = 1 := by omega
        subst h2
        go_wp2_with fail
        refine (clear_yes B e r _ of' ol' a n cap hd' rs' _ (HY.out.setE.1 _)).mono ?_
        rintro x w2 ⟨rfl, he2, hb2⟩
        go_wp2
        refine bodyPost_ret (results_none rfl _ _ _) rfl ?_
        exact ⟨rfl, ⟨_, _, _, _, _, he2, HS.out.done hp h1⟩, (HB.out.setCell (p := ⟨e, 0, none⟩) HY.out.be _).trans hb2⟩
      · have h1' : (h' - 1 == 0) = false := beq_eq_false_iff_ne.2 h1
        have hlt : hd' < n := by have := HC.out.1; omega
        obtain ⟨g, rfl, hBg, hgs, hc, _⟩ := owns_at HY.out.own (by omega)
        obtain ⟨x0, x1⟩ := run_cell HC.out.2.1 hc hlt
        have hge : g ≠ e := by
          rcases HY.out.own.2 with ⟨q, _⟩ | ⟨g', cap', cur, hv, _, hh, _⟩
          · injection q with q; cases q
          · injection hv with hv1; injection hv1 with hv1; injection hv1 with hv1; subst hv1; exact ne_of_types hh HY.out.he (by decide)
        have b0 : (hd' : Int) < (n : Int) := by omega
        have hR2 := HY.out.round (h' - 1) (fs rs' hd') (ls rs' hd')
        have HY2 : Hid (EntY B ((((wr.setCell ⟨e, 0, none⟩ (.int .i64 (h' - 1))).setCell ⟨e, 1, none⟩ (.int .i64 (fs rs' hd'))).setCell ⟨e, 2, none⟩ (.int .i64 (ls rs' hd'))).setCell ⟨r, 1, none⟩ (.int .i64 ((hd' : Int) + 1))).drew e r (h' - 1) (fs rs' hd') (ls rs' hd') (some ⟨g, 0, none⟩) n cap (hd' + 1) rs') := hR2.1
        have HB2 : Hid (Below B w ((((wr.setCell ⟨e, 0, none⟩ (.int .i64 (h' - 1))).setCell ⟨e, 1, none⟩ (.int .i64 (fs rs' hd'))).setCell ⟨e, 2, none⟩ (.int .i64 (ls rs' hd'))).setCell ⟨r, 1, none⟩ (.int .i64 ((hd' : Int) + 1))).drew) := HB.out.trans hR2.2
        clear hc hR2
        by_cases hcut : n / 2 < hd' + 1
        · have b1 : (n : Int) / 2 < (hd' : Int) + 1 := by omega
          go_wp2
          go_region
          all_goals
            go_wp2
            generalize ((((wr.setCell ⟨e, 0, none⟩ (.int .i64 (h' - 1))).setCell ⟨e, 1, none⟩ (.int .i64 (fs rs' hd'))).setCell ⟨e, 2, none⟩ (.int .i64 (ls rs' hd'))).setCell ⟨r, 1, none⟩ (.int .i64 ((hd' : Int) + 1))).drew = w2 at HY2 HB2 ⊢
            have y0 : w2.cell? ⟨r, 0, none⟩ = some (.slice (some ⟨g, 0, none⟩) n cap) := by rw [cell_of_heap HY2.out.hr]; rfl
            have y1 : w2.cell? ⟨r, 1, none⟩ = some (.int .i64 ((hd' : Int) + 1)) := by rw [cell_of_heap HY2.out.hr]; rfl
            have z0 := frozen_of_heap HY2.out.hr 0
            have z1 := frozen_of_heap HY2.out.hr 1
            clear c0 c1 c2 c3 d0 d1 f0 f1 f2 f3 f4 x0 x1 HY0 HS0 HY HB
            go_quiet (fail)
            go_wp2
            obtain ⟨k, hk⟩ : ∃ k, hd' + 1 = k := ⟨_, rfl⟩
            have hki : (hd' : Int) + 1 = (k : Int) := by omega
            rw [hki] at y1 b1
            rw [hk] at HY2
            have HK : Hid (hd' + 1 = k) := hk
            have hkn : (k : Int) ≤ (n : Int) := by omega
            have hcapn : n ≤ cap := HY2.out.cap_le
            have hkc : (k : Int) ≤ (cap : Int) := by omega
            have HY3 : Hid (EntY B (w2.drewN nq).drew e r (h' - 1) (fs rs' hd') (ls rs' hd') (some ⟨g, 0, none⟩) n cap k rs') := HY2.out.same rfl
            clear hk hki hcut b0 h1
            have hfit : n ≤ cap + k := by omega
            by_cases hck : k = cap
            · obtain rfl : n = k := by omega
              subst hck
              have hcp : ∀ w : World, (Builtin.copy_ #[49, 49] 3 #[.slice (some ⟨g, 0, none⟩) n n, .slice (some ⟨g, 0, none⟩) 0 0]).run Try.prog w = .ok (.int .i64 0) w := fun w => run_copy_none2 (P := Try.prog) w 49 49 3 45 _ _ n n 0 0 Try.underlying49 size45 (Nat.zero_min _)
              have HY5 : Hid (EntY B (((w2.drewN (nq + 1)).setCell ⟨r, 0, none⟩ (.slice (some ⟨g, 0, none⟩) 0 n)).setCell ⟨r, 1, none⟩ (.int .i64 0)) e r (h' - 1) (fs rs' hd') (ls rs' hd') (some ⟨g, 0, none⟩) 0 n 0 []) := ((HY2.out.same (w' := w2.drewN (nq + 1)) rfl).setL 0 (Nat.zero_le _)).setH 0
              have HB5 : Hid (Below B w (((w2.drewN (nq + 1)).setCell ⟨r, 0, none⟩ (.slice (some ⟨g, 0, none⟩) 0 n)).setCell ⟨r, 1, none⟩ (.int .i64 0))) := ((below_draw HB2.out (nq + 1)).setCell (p := ⟨r, 0, none⟩) HY2.out.br _).setCell (p := ⟨r, 1, none⟩) HY2.out.br _
              have HS5 : Hid (DropS A pos rs hd (i + 1) (h' - 1) (fs rs' hd') (ls rs' hd') [] 0) := HS.out.step hp (by have := HC.out.2.1; omega) (.inr ⟨by rw [HK.out, List.drop_eq_nil_of_le (by have := HC.out.2.1; omega)], rfl⟩)
              clear HY3 b1
              go_region
              all_goals
                go_wp2
                go_roundg (gk - 1)
                case measure => have := HC.out.2.2; have := HS.out.lt; omega
                case rel => exact ⟨i + 1, r, some ⟨g, 0, none⟩, 0, n, 0, h' - 1, _, _, _, by have := HC.out.2.2; have := HS.out.lt; omega, HY5, HS5, HB5⟩
            · have hck2 : ¬ cap = k := fun h => hck h.symm
              obtain ⟨w4, hcp, hY4, hB4⟩ := copy_self (HY2.out.same (w' := w2.drewN (nq + 1)) rfl) (n - k) (cap - k) (some ⟨g, k * 2, none⟩) (by omega) rfl (fun _ => rfl) 3
              have q0 : w4.cell? ⟨r, 0, none⟩ = some (.slice (some ⟨g, 0, none⟩) n cap) := by rw [cell_of_heap hY4.hr]; rfl
              have q1 : w4.cell? ⟨r, 1, none⟩ = some (.int .i64 (k : Int)) := by rw [cell_of_heap hY4.hr]; rfl
              have q2 := frozen_of_heap hY4.hr 0
              have q3 := frozen_of_heap hY4.hr 1
              have HY5 := hY4.cutFin HC.out.2.1 (by omega)
              have HB5 : Hid (Below B w ((w4.setCell ⟨r, 0, none⟩ (.slice (some ⟨g, 0, none⟩) (n - k) cap)).setCell ⟨r, 1, none⟩ (.int .i64 0))) := (((below_draw HB2.out (nq + 1)).trans hB4).setCell (p := ⟨r, 0, none⟩) HY2.out.br _).setCell (p := ⟨r, 1, none⟩) HY2.out.br _
              have HS5 : Hid (DropS A pos rs hd (i + 1) (h' - 1) (fs rs' hd') (ls rs' hd') (rs'.drop k) 0) := HS.out.step hp (by have := HC.out.2.1; omega) (.inr ⟨by rw [HK.out], rfl⟩)
              clear hY4 hB4 HY3 HY2 HB2
              go_region
              all_goals
                go_wp2
                go_roundg (gk - 1)
                case measure => have := HC.out.2.2; have := HS.out.lt; omega
                case rel => exact ⟨i + 1, r, some ⟨g, 0, none⟩, n - k, cap, 0, h' - 1, _, _, _, by have := HC.out.2.2; have := HS.out.lt; omega, HY5, HS5, HB5⟩
        · have b1 : (hd' : Int) + 1 ≤ (n : Int) / 2 := by omega
          go_wp2
          go_region
          all_goals
            go_wp2
            generalize ((((wr.setCell ⟨e, 0, none⟩ (.int .i64 (h' - 1))).setCell ⟨e, 1, none⟩ (.int .i64 (fs rs' hd'))).setCell ⟨e, 2, none⟩ (.int .i64 (ls rs' hd'))).setCell ⟨r, 1, none⟩ (.int .i64 ((hd' : Int) + 1))).drew = w2 at HY2 HB2 ⊢
            have y0 : w2.cell? ⟨r, 0, none⟩ = some (.slice (some ⟨g, 0, none⟩) n cap) := by rw [cell_of_heap HY2.out.hr]; rfl
            have y1 : w2.cell? ⟨r, 1, none⟩ = some (.int .i64 ((hd' : Int) + 1)) := by rw [cell_of_heap HY2.out.hr]; rfl
            have z0 := frozen_of_heap HY2.out.hr 0
            have z1 := frozen_of_heap HY2.out.hr 1
            clear c0 c1 c2 c3 d0 d1 f0 f1 f2 f3 f4 x0 x1 HY0 HS0 HY HB
            go_quiet (fail)
            go_wp2
            go_roundg (gk - 1)
            case measure => have := HC.out.2.2; have := HS.out.lt; omega
            case rel => exact ⟨i + 1, r, some ⟨g, 0, none⟩, n, cap, hd' + 1, h' - 1, _, _, rs', by have := HC.out.2.2; have := HS.out.lt; omega, HY2.out.same rfl, HS.out.step hp (by have := HC.out.2.1; omega) (.inl ⟨rfl, rfl, by have := HC.out.2.1; omega⟩), below_draw HB2.out _⟩
    · have hp2 : pos ≤ ol' := by omega
      go_wp2
      go_end0
      exact ⟨rfl, ⟨_, _, _, _, _, HY.out.ent, .inl ⟨i, HS.out, hp2⟩⟩, HB.out⟩
end Go.Proofs.Qxb6618191a
