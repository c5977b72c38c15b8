/-
  Cell.at (function 23) and ZZcellAt (function 14): the first stamp of the chain at or below q.
-/
import Derived.Test.Qxb6618818aNewCell
import Derived.Deep.LoopGhost
namespace Go.Proofs.Qxb6618818a
open Go.RowKit

/-- The newest version at or before q. -/
def newest (q : Int) (l : List Int) : Option Int := l.find? (fun s => decide (s ≤ q))

theorem newest_nil (q : Int) : newest q [] = none := rfl
theorem newest_yes {q s : Int} {r : List Int} (h : s ≤ q) : newest q (s :: r) = some s := by simp [newest, h]
theorem newest_no {q s : Int} {r : List Int} (h : ¬ s ≤ q) : newest q (s :: r) = newest q r := by simp [newest, h]

/-- What at hands back: nil, or a pointer to a version with that stamp. -/
def AtIs (w : World) (o : Option Int) (p : Option Addr) : Prop :=
  (o = none ∧ p = none) ∨ ∃ s b, o = some s ∧ p = some ⟨b, 0, none⟩ ∧ w.cell? ⟨b, 0, none⟩ = some (.int .u64 s)

set_option maxHeartbeats 1000000 in
theorem at_any (c : Nat) (q : Int) (l : List Int) (w : World) (hc : CellOk w c l) :
    Calls Try.prog 23 #[.pointer (some ⟨c, 0, none⟩), .int .u64 q] w fun e w' => ∃ p, e = .returned (.pointer p) ∧ AtIs w (newest q l) p ∧ w' = w := by
  obtain ⟨p0, hc2, hch0⟩ := hc
  have HC0 : Hid (Chain w l p0) := hch0
  have hv0 := hch0.vptr
  clear hch0
  go_enter Try.func23, Try.ntmps23
  go_wp2_with fail
  refine (pload_any _ _ _ _ hc2 hv0).mono ?_
  rintro e w1 ⟨rfl, rfl⟩
  clear hc2 hv0
  go_wp2_with fail
  go_loopg [5] l.length (fun k v wr => ∃ (r : List Int) (p : Option Addr), r.length = k ∧ v = .pointer p ∧ Chain w1 r p ∧ newest q l = newest q r ∧ wr = w1)
  case atStart => exact ⟨l, p0, rfl, rfl, HC0.out, rfl, rfl⟩
  case round =>
    obtain ⟨r, p, hk, rfl, hch, hq, rfl⟩ := hrel
    have HK : Hid (r.length = gk ∧ newest q l = newest q r) := ⟨hk, hq⟩
    clear hk hq HC0
    cases r with
    | nil =>
      have hp : p = none := hch
      subst hp
      clear hch
      go_wp2_with fail
      go_ret
      exact ⟨none, rfl, .inl ⟨HK.out.2, rfl⟩, rfl⟩
    | cons s r =>
      obtain ⟨b, num, nxt, rfl, hb, hr⟩ := hch
      have HR : Hid (Chain wr r nxt) := hr
      have hv := hr.vptr
      have c0 : wr.cell? ⟨b, 0, none⟩ = some (.int .u64 s) := by simp [World.cell?, hb]
      have c3 : wr.cell? ⟨b, 3, none⟩ = some (.pointer nxt) := by simp [World.cell?, hb]
      clear hr hb
      by_cases hs : q < s
      · go_wp2_with fail
        refine (pload_any _ _ _ _ c3 hv).mono ?_
        rintro e w2 ⟨rfl, rfl⟩
        clear c0 c3 hv
        go_wp2
        go_roundg r.length
        case measure => have := HK.out.1; simp at this; omega
        case rel => exact ⟨r, nxt, rfl, rfl, HR.out, HK.out.2.trans (newest_no (by omega)), rfl⟩
      · go_wp2_with fail
        go_ret
        exact ⟨_, rfl, .inr ⟨s, b, HK.out.2.trans (newest_yes (by omega)), rfl, c0⟩, rfl⟩

set_option maxHeartbeats 1000000 in
theorem cellAt_any (c : Nat) (q : Int) (l : List Int) (w : World) (hc : CellOk w c l) :
    Calls Try.prog 14 #[.pointer (some ⟨c, 0, none⟩), .int .u64 q] w fun e w' => e = .returned (.tuple #[.bool (newest q l).isSome, .int .u64 ((newest q l).getD 0)]) ∧ ∃ nq, w' = w.drewN nq := by
  have H : Hid (CellOk w c l) := hc
  clear hc
  go_enter Try.func14, Try.ntmps14
  go_wp2_with fail
  refine (at_any _ _ _ _ H.out).mono ?_
  rintro e w1 ⟨p, rfl, hp, rfl⟩
  rcases hp with ⟨ho, rfl⟩ | ⟨s, b, ho, rfl, hcell⟩
  · have HO : Hid (newest q l = none) := ho
    clear ho
    go_wp2
    go_ret2
    exact ⟨by rw [HO.out]; rfl, 0, rfl⟩
  · have HO : Hid (newest q l = some s) := ho
    clear ho
    go_wp2
    go_quiet (fail)
    go_wp2
    go_ret2
    exact ⟨by rw [HO.out]; rfl, _, rfl⟩
end Go.Proofs.Qxb6618818a
