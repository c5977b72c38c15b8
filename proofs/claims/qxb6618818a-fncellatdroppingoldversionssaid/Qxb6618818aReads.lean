/-
  The readers of a slice of uint64: strictlyFalling (function 11), greatestAtOrBelow (function 15).
-/
import Derived.Test.Qxb6618818aAtom
import Derived.Deep.QuietTactic
import Derived.BigQuiet
import Derived.LaidEqlPtr
namespace Go.Proofs.Qxb6618818a
open Go.RowKit

/-- The cells of a slice of uint64: it is empty, or its elements lie in a row. -/
def Row (w : World) (a : Option Addr) (l : List Int) : Prop :=
  l = [] ∨ ∃ b off, a = some ⟨b, off, none⟩ ∧ ∀ i, i < l.length → w.cell? ⟨b, off + i, none⟩ = some (.int .u64 (l[i]?.getD 0))
def Falls (l : List Int) : Prop := ∀ i, i + 1 < l.length → l[i + 1]?.getD 0 < l[i]?.getD 0

theorem falls_no {l : List Int} {k n : Nat} (hl : l.length = n) (h1 : 1 ≤ k) (hk : k < n) (h : l[k - 1]?.getD 0 ≤ l[k]?.getD 0) : ¬ Falls l := by
  intro hf
  have := hf (k - 1) (by omega)
  rw [show k - 1 + 1 = k from by omega] at this
  omega

set_option maxHeartbeats 1000000 in
theorem falling_any (a : Option Addr) (n cap : Nat) (l : List Int) (w : World) (hl : l.length = n) (hn : n ≤ 65536) (hr : Row w a l) :
    Calls Try.prog 11 #[.slice a n cap] w fun e w' => ∃ r : Bool, e = .returned (.bool r) ∧ (r = true ↔ Falls l) ∧ ∃ nq, w' = w.drewN nq := by
  rcases hr with rfl | ⟨b, off, rfl, hc⟩
  · have hn0 : n = 0 := by simpa using hl.symm
    subst hn0
    clear hl
    go_enter Try.func11, Try.ntmps11
    go_wp2
    go_loop [3] (fun i => i = .int .i64 1) (fun _ => 0)
    case atStart => rfl
    case round =>
      subst hrel
      go_wp2
      go_ret
      exact Or.inr ⟨rfl, fun i hi => by simp at hi, 0, rfl⟩
  · have HL : Hid (l.length = n) := hl
    rw [hl] at hc
    clear hl
    go_enter Try.func11, Try.ntmps11
    go_wp2
    go_loopw [3] (fun i wr => ∃ k m : Nat, 1 ≤ k ∧ k ≤ n + 1 ∧ i = .int .i64 k ∧ wr = w.drewN m ∧ ∀ i, i + 1 < k → i + 1 < n → l[i + 1]?.getD 0 < l[i]?.getD 0) (fun i _ => n + 1 - (intOf i).toNat)
    case atStart => exact ⟨1, 0, by omega, by omega, rfl, rfl, fun i hi => by omega⟩
    case round =>
      obtain ⟨k, m, hk1, hkn, rfl, rfl, hf⟩ := hrel
      have HF : Hid _ := hf
      clear hf
      by_cases hlt : k < n
      · have c1 := hc k hlt
        have c2 := hc (k - 1) (by omega)
        have b1 : (k : Int) < (n : Int) := by omega
        have b2 : (0 : Int) ≤ (k : Int) - 1 := by omega
        clear hc
        go_wp2
        go_quiet (fail)
        go_wp2
        · have hge : l[k - 1]?.getD 0 ≤ l[k]?.getD 0 := by assumption
          go_ret
          have hno := falls_no HL.out hk1 hlt hge
          exact ⟨false, rfl, ⟨fun h => (by cases h), fun h => absurd h hno⟩, _, World.drewN_drewN ..⟩
        · have hge : l[k]?.getD 0 < l[k - 1]?.getD 0 := by assumption
          go_roundw
          case rel =>
            refine ⟨k + 1, _, by omega, by omega, by go_num, rfl, fun i hi hin => ?_⟩
            by_cases e : i + 1 = k
            · subst e; simpa using hge
            · exact HF.out i (by omega) hin
          case measure => simp [intOf]; omega
      · go_wp2
        go_ret
        exact ⟨true, rfl, ⟨fun _ => fun i hi => HF.out i (by have := HL.out; omega) (by have := HL.out; omega), fun _ => rfl⟩, _, rfl⟩

/-- What greatestAtOrBelow gathers. -/
def gstep (q : Int) (acc : Option Int) (s : Int) : Option Int :=
  if s ≤ q then (match acc with | none => some s | some b => if b < s then some s else some b) else acc
def gto (q : Int) (l : List Int) (k : Nat) : Option Int := (l.take k).foldl (gstep q) none
theorem gto_succ (q : Int) (l : List Int) (k : Nat) (h : k < l.length) : gto q l (k + 1) = gstep q (gto q l k) (l[k]?.getD 0) := by
  unfold gto
  rw [List.take_succ_eq_append_getElem h, List.foldl_append]
  simp [h]

theorem g_first {q : Int} {l : List Int} {n k : Nat} {B : Int} (HL : Hid (l.length = n)) (hk : k < n) (HG : Hid (false = (gto q l k).isSome ∧ B = (gto q l k).getD 0)) (h : l[k]?.getD 0 ≤ q) :
    Hid (true = (gto q l (k + 1)).isSome ∧ l[k]?.getD 0 = (gto q l (k + 1)).getD 0) := by
  have hl := HL.out; have h1 := HG.out.1
  have h0 : gto q l k = none := by cases hg : gto q l k <;> simp [hg] at h1 ⊢
  rw [gto_succ q l k (by omega), h0]
  simp [gstep, h, Hid]
theorem g_pass {q : Int} {l : List Int} {n k : Nat} {B : Int} {F : Bool} (HL : Hid (l.length = n)) (hk : k < n) (HG : Hid (F = (gto q l k).isSome ∧ B = (gto q l k).getD 0)) (h : q < l[k]?.getD 0) :
    Hid (F = (gto q l (k + 1)).isSome ∧ B = (gto q l (k + 1)).getD 0) := by
  have hl := HL.out
  rw [gto_succ q l k (by omega)]
  have : gstep q (gto q l k) (l[k]?.getD 0) = gto q l k := by simp only [gstep]; rw [if_neg (by omega)]
  rw [this]; exact HG
theorem g_up {q : Int} {l : List Int} {n k : Nat} {B : Int} (HL : Hid (l.length = n)) (hk : k < n) (HG : Hid (true = (gto q l k).isSome ∧ B = (gto q l k).getD 0)) (h : l[k]?.getD 0 ≤ q) (h2 : B < l[k]?.getD 0) :
    Hid (true = (gto q l (k + 1)).isSome ∧ l[k]?.getD 0 = (gto q l (k + 1)).getD 0) := by
  have hl := HL.out; have h1 := HG.out.1; have hb := HG.out.2
  obtain ⟨g, h0⟩ : ∃ g, gto q l k = some g := Option.isSome_iff_exists.1 h1.symm
  rw [h0] at hb
  rw [gto_succ q l k (by omega), h0]
  simp at hb
  subst hb
  simp [gstep, h, h2, Hid]
theorem g_keep {q : Int} {l : List Int} {n k : Nat} {B : Int} (HL : Hid (l.length = n)) (hk : k < n) (HG : Hid (true = (gto q l k).isSome ∧ B = (gto q l k).getD 0)) (h : l[k]?.getD 0 ≤ q) (h2 : l[k]?.getD 0 ≤ B) :
    Hid (true = (gto q l (k + 1)).isSome ∧ B = (gto q l (k + 1)).getD 0) := by
  have hl := HL.out; have h1 := HG.out.1; have hb := HG.out.2
  obtain ⟨g, h0⟩ : ∃ g, gto q l k = some g := Option.isSome_iff_exists.1 h1.symm
  rw [h0] at hb
  rw [gto_succ q l k (by omega), h0]
  simp at hb
  subst hb
  have h3 : ¬ B < l[k]?.getD 0 := by omega
  simp [gstep, h, h3, Hid]

theorem ret2 {f : Bool} {b : Int} {o : Option Int} (hf : f = o.isSome) (hb : b = o.getD 0) : Ending.returned (.tuple #[.bool f, .int .u64 b]) = .returned (.tuple #[.bool o.isSome, .int .u64 (o.getD 0)]) := by rw [hf, hb]

set_option maxHeartbeats 1000000 in
theorem greatest_any (a : Option Addr) (n cap : Nat) (l : List Int) (q : Int) (w : World) (hl : l.length = n) (hn : n ≤ 65536) (hr : Row w a l) :
    Calls Try.prog 15 #[.slice a n cap, .int .u64 q] w fun e w' => e = .returned (.tuple #[.bool (gto q l n).isSome, .int .u64 ((gto q l n).getD 0)]) ∧ w' = w := by
  rcases hr with rfl | ⟨b, off, rfl, hc⟩
  · have hn0 : n = 0 := by simpa using hl.symm
    subst hn0
    clear hl
    go_enter Try.func15, Try.ntmps15
    go_wp2
    go_loop [6, 7, 8] (fun f b i => i = .int .i64 0 ∧ f = .bool false ∧ b = .int .u64 0) (fun _ _ _ => 0)
    case atStart => exact ⟨rfl, rfl, rfl⟩
    case round =>
      obtain ⟨rfl, rfl, rfl⟩ := hrel
      go_wp2
      go_ret2
      exact ⟨rfl, rfl⟩
  · have HL : Hid (l.length = n) := hl
    rw [hl] at hc
    clear hl
    go_enter Try.func15, Try.ntmps15
    go_wp2
    go_loop [6, 7, 8] (fun f b i => ∃ (k : Nat) (F : Bool) (B : Int), k ≤ n ∧ i = .int .i64 k ∧ f = .bool F ∧ b = .int .u64 B ∧ Hid (F = (gto q l k).isSome ∧ B = (gto q l k).getD 0)) (fun _ _ i => n - (intOf i).toNat)
    case atStart => exact ⟨0, false, 0, by omega, rfl, rfl, rfl, rfl, rfl⟩
    case round =>
      obtain ⟨k, F, B, hkn, rfl, rfl, rfl, HG⟩ := hrel
      by_cases hlt : k < n
      · have c1 := hc k hlt
        have b1 : (k : Int) < (n : Int) := by omega
        clear hc
        cases F
        all_goals
          go_wp2
          all_goals
            go_round
            case rel => exact ⟨k + 1, _, _, by omega, by go_num, rfl, rfl, by first | exact g_first HL hlt HG ‹_› | exact g_pass HL hlt HG ‹_› | exact g_up HL hlt HG ‹_› ‹_› | exact g_keep HL hlt HG ‹_› ‹_›⟩
            case measure => simp [intOf]; omega
      · go_wp2
        go_ret2
        have : k = n := by omega
        subst this
        exact ⟨ret2 HG.out.1 HG.out.2, rfl⟩
end Go.Proofs.Qxb6618818a
