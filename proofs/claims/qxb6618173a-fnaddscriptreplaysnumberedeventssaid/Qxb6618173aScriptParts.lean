/-
  What the script of adds stands on.
-/
import Derived.Test.Qxb6618173aBest
import Derived.Deep.CutBlock
import Derived.Deep.RegionWith
import Derived.Deep.RegionHeld
namespace Go.Proofs.Qxb6618173a
open Go.RowKit

theorem zz16 (a : Option Addr) (n cap : Nat) (x1 x2 x3 : Int) (w : World) (h : n ≤ 1048576) :
    Calls Try.prog 16 #[.slice a n cap, .int .i64 x1, .int .i64 x2, .int .u64 x3] w fun e w' => e = .returned (.bool true) ∧ w' = w := by
  go_enter Try.func16, Try.ntmps16
  go_wp2
  go_ret
  exact ⟨rfl, rfl⟩

theorem newHist (B : Nat) (w : World) (hB : B ≤ w.heap.size) :
    Calls Try.prog 17 #[] w fun e w' => e = .returned (.pointer (some ⟨w.heap.size, 0, none⟩)) ∧ Hist w' B w.heap.size [] 0 ∧ Below w.heap.size w w' := by
  go_enter Try.func17, Try.ntmps17
  go_wp2
  go_ret
  exact ⟨rfl, ⟨hB, _, heap_alloc_new _ _, .inl ⟨rfl, _, rfl⟩⟩, (Below.refl _ _).alloc (Nat.le_refl _) _⟩

theorem ok_end {eb : Nat} {l : List Int} {n q : Nat} {he hby : Int} (hl : l.length = n) (hq : q ≤ n) : okB he hby ((esOf eb l n).drop (n - q)) = true ↔ (q : Int) ≤ he ∧ sumL (l.drop (n - q)) ≤ hby := by
  rw [okB_iff, sumS_drop hl _ (by omega), List.length_drop, esOf_length, show n - (n - q) = q by omega]

theorem end_is {eb : Nat} {l : List Int} {n q : Nat} {he hby : Int} (hl : l.length = n) (hn : ∀ i, i < n → 0 ≤ l[i]?.getD 0) (hq : q ≤ n) (h1 : q = 0 ∨ okB he hby ((esOf eb l n).drop (n - q)) = true)
    (h2 : q = n ∨ he ≤ (q : Int) ∨ hby < l[n - 1 - q]?.getD 0 + sumL (l.drop (n - q))) : best he hby (esOf eb l n) = (esOf eb l n).drop (n - q) := by
  have e := best_is (he := he) (hby := hby) (es := esOf eb l n) (k := q) (nonneg_esOf hn) (by rw [esOf_length]; exact hq)
  rw [esOf_length] at e
  refine e h1 ?_
  by_cases hqn : q = n
  · exact .inl hqn
  · right
    rw [show n - q - 1 = n - (q + 1) by omega, ok_end hl (by omega)]
    have e2 := sumL_drop_back (k := n) (m := q) hl (by omega)
    rw [show n - q - 1 = n - (q + 1) by omega] at e2
    rcases h2 with h2 | h2 | h2
    · exact absurd h2 hqn
    · intro h; omega
    · intro h; omega

/-- What stands ahead of the script: the sizes, the events, the config. -/
structure Pre (w1 w2 : World) (a : Option Addr) (l : List Int) (eb cb k : Nat) (he hby : Int) : Prop where
  row : Row w2 a l
  evs : Evs w2 eb 1 k
  cfg : w2.heap[cb]? = some (cfgObj he hby)
  below : Below w1.heap.size w1 w2

theorem Pre.later {w1 w2 wr : World} {a : Option Addr} {l : List Int} {eb cb k : Nat} {he hby : Int} (h : Pre w1 w2 a l eb cb k he hby) (hb : Below w2.heap.size w2 wr) : Pre w1 wr a l eb cb k he hby :=
  ⟨h.row.below hb, h.evs.below hb, by rw [hb.block _ (lt_of_heap h.cfg)]; exact h.cfg, h.below.trans (hb.mono h.below.size)⟩
theorem Pre.draw {w1 w2 : World} {a : Option Addr} {l : List Int} {eb cb k : Nat} {he hby : Int} (h : Pre w1 w2 a l eb cb k he hby) (n : Nat) : Pre w1 (w2.drewN n) a l eb cb k he hby :=
  ⟨h.row, h.evs, h.cfg, below_draw h.below n⟩

theorem script_step {eb k i : Nat} {l : List Int} {he hby S : Int} (hl : l.length = k) (hS : S = sumL (l.take k) ∧ ∀ i, i < k → 0 ≤ l[i]?.getD 0) (hS1 : S ≤ 4611686018427387903) (hi : i < k) (h1 : k ≤ 65536) :
    (best he hby (esOf eb l i)).length ≤ 65536 ∧ nonneg (best he hby (esOf eb l i)) ∧ sumS (best he hby (esOf eb l i)) + l[i]?.getD 0 ≤ 4611686018427387903 ∧ added he hby (best he hby (esOf eb l i)) (eb + 1 + i, l[i]?.getD 0) = best he hby (esOf eb l (i + 1)) := by
  have hnn : nonneg (esOf eb l (i + 1)) := nonneg_esOf (fun j hj => hS.2 j (by omega))
  have hnn' := hnn
  rw [esOf_snoc] at hnn'
  obtain ⟨f1, f2, f3⟩ := best_facts (he := he) (hby := hby) (nonneg_append hnn').1
  refine ⟨by rw [esOf_length] at f1; omega, f2, ?_, by rw [added_best he hby _ _ hnn', ← esOf_snoc]⟩
  have e1 := sumS_esOf (eb := eb) hl (i + 1) (by omega)
  rw [esOf_snoc, sumS_append] at e1
  simp [sumS] at e1
  have e2 : sumL (l.take k) = sumL (l.take (i + 1)) + sumL (l.drop (i + 1)) := by
    rw [← sumL_append, List.take_append_drop, List.take_of_length_le (by omega)]
  have e3 : 0 ≤ sumL (l.drop (i + 1)) := sumL_nonneg (fun j hj => by
    rw [List.length_drop] at hj
    rw [List.getElem?_drop]; exact hS.2 _ (by omega))
  omega

end Go.Proofs.Qxb6618173a
