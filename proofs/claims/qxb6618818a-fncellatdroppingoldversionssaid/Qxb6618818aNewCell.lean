/-
  ZZnewCell (function 13): a cell whose chain bears the stamps.
-/
import Derived.Test.Qxb6618818aClone
import Derived.Test.Qxb6618818aPtr
namespace Go.Proofs.Qxb6618818a
open Go.RowKit

/-- A chain of versions, head first, bears these stamps. -/
def Chain (w : World) : List Int → Option Addr → Prop
  | [], p => p = none
  | s :: r, p => ∃ b num nxt, p = some ⟨b, 0, none⟩ ∧ w.heap[b]? = some (.cells #[.int .u64 s, .int .u64 num, .nilIface, .pointer nxt] 88 (0, 0)) ∧ Chain w r nxt

theorem Chain.vptr {w : World} {l : List Int} {p : Option Addr} (h : Chain w l p) : Vptr w p := by
  intro x hx
  cases l with
  | nil => rw [show p = none from h] at hx; cases hx
  | cons s r =>
    obtain ⟨b, num, nxt, hp, hb, _⟩ := h
    rw [hp] at hx
    injection hx with hx
    exact ⟨b, _, hx.symm, hb, rfl⟩

theorem Chain.keep {w w' : World} (hk : ∀ (b : Nat) (C : Array Value), w.heap[b]? = some (.cells C 88 (0, 0)) → w'.heap[b]? = some (.cells C 88 (0, 0))) :
    ∀ {l : List Int} {p : Option Addr}, Chain w l p → Chain w' l p
  | [], _, h => h
  | _ :: _, _, h => by
    obtain ⟨b, num, nxt, hp, hb, hr⟩ := h
    exact ⟨b, num, nxt, hp, hk b _ hb, Chain.keep hk hr⟩

theorem lt_of_heap {w : World} {b : Nat} {o : Obj} (h : w.heap[b]? = some o) : b < w.heap.size := (Array.getElem?_eq_some_iff.1 h).1

theorem Chain.below {w w' : World} (hb : Below w.heap.size w w') {l : List Int} {p : Option Addr} (h : Chain w l p) : Chain w' l p :=
  Chain.keep (fun b C e => by rw [hb.block b (lt_of_heap e)]; exact e) h

def CellOk (w : World) (c : Nat) (l : List Int) : Prop := ∃ p, w.cell? ⟨c, 2, none⟩ = some (.pointer p) ∧ Chain w l p

theorem heap_set_at (w : World) (b i : Nat) (C : Array Value) (t : TypeId) (v : Value) (fr : Nat × Nat) (h : w.heap[b]? = some (.cells C t fr)) : (w.setCell ⟨b, i, none⟩ v).heap[b]? = some (.cells (C.setIfInBounds i v) t fr) := by
  simp [World.setCell, Array.getElem?_modify, h]

theorem chain_push {wr : World} {s num : Int} {r : List Int} {p : Option Addr} (h : Chain wr r p) :
    Chain ((wr.alloc (.cells #[.int .u64 s, .int .u64 num, .nilIface, .pointer none] 88)).setCell ⟨wr.heap.size, 3, none⟩ (.pointer p)) (s :: r) (some ⟨wr.heap.size, 0, none⟩) := by
  refine ⟨wr.heap.size, num, p, rfl, ?_, ?_⟩
  · rw [heap_set_at _ _ _ _ _ _ _ (heap_alloc_new _ _)]
    rfl
  · refine Chain.keep (fun b C e => ?_) h
    have hlt := lt_of_heap e
    rw [Below.heap_setCell _ _ _ _ (by simp; omega), heap_alloc_old _ _ hlt]
    exact e

theorem drop_back {l : List Int} {n k : Nat} (hl : l.length = n) (h1 : 1 ≤ k) (hk : k ≤ n) : l.drop (k - 1) = l[k - 1]?.getD 0 :: l.drop k := by
  have h2 : k - 1 < l.length := by omega
  rw [List.drop_eq_getElem_cons h2, show k - 1 + 1 = k from by omega]
  simp [h2]

set_option maxHeartbeats 1000000 in
theorem newCell_any (a : Option Addr) (n cap : Nat) (l : List Int) (w : World) (hl : l.length = n) (hn : n ≤ 65536) (hr : Row w a l) :
    Calls Try.prog 13 #[.slice a n cap] w fun e w' => e = .returned (.pointer (some ⟨w.heap.size, 0, none⟩)) ∧ CellOk w' w.heap.size l ∧ Below w.heap.size w w' := by
  have HL : Hid (l.length = n) := hl
  have hx : ∀ k, k < n → ∃ b off, a = some ⟨b, off, none⟩ ∧ b < w.heap.size ∧ w.cell? ⟨b, off + k, none⟩ = some (.int .u64 (l[k]?.getD 0)) := by
    intro k hk
    rcases hr with rfl | ⟨b, off, h1, hc⟩
    · simp at hl; omega
    · exact ⟨b, off, h1, lt_of_cell (hc k (by omega)), hc k (by omega)⟩
  have HX : Hid _ := hx
  clear hr hl hx
  go_enter Try.func13, Try.ntmps13
  go_wp2
  go_loopw [4, 5] (fun o i wr => ∃ (k : Nat) (p : Option Addr), k ≤ n ∧ i = .int .i64 ((k : Int) - 1) ∧ o = .pointer p ∧ Chain wr (l.drop k) p ∧ Below w.heap.size w wr ∧
     wr.heap[w.heap.size]? = some (.cells #[.pointer none, .int .u64 0, .pointer none, .pointer none, .int .u64 0, .int .u64 0] 86 (0, 0))) (fun _ i _ => (intOf i + 1).toNat)
  case atStart => exact ⟨n, none, by omega, rfl, rfl, by rw [List.drop_of_length_le (by have := HL.out; omega)]; rfl, (Below.refl _ _).alloc (Nat.le_refl _) _, heap_alloc_new _ _⟩
  case round =>
    obtain ⟨k, p, hkn, rfl, rfl, hch, hbel, hcb⟩ := hrel
    have HC : Hid (Chain wr (l.drop k) p) := hch
    have HB : Hid (Below w.heap.size w wr) := hbel
    have HH : Hid (wr.heap[w.heap.size]? = some (.cells #[.pointer none, .int .u64 0, .pointer none, .pointer none, .int .u64 0, .int .u64 0] 86 (0, 0))) := hcb
    by_cases hlt : 1 ≤ k
    · obtain ⟨b, off, rfl, hb, hc⟩ := HX.out (k - 1) (by omega)
      have c1 := hbel.cell (p := ⟨b, off + (k - 1), none⟩) hb
      rw [hc] at c1
      have b0 : (0 : Int) ≤ (k : Int) - 1 := by omega
      have b1 : (k : Int) - 1 < (n : Int) := by omega
      have hv := hch.vptr
      have hzl := lt_of_heap hcb
      clear hch hbel hcb hc
      go_wp2_with fail
      refine (pstore_any _ _ _ (.pointer none) _ ?_ ?_ ?_).mono ?_
      · simp
      · simp
      · intro x hx
        obtain ⟨vb, C, h1, h2, h3⟩ := hv x hx
        exact ⟨vb, C, h1, by rw [heap_alloc_old _ _ (lt_of_heap h2)]; exact h2, h3⟩
      rintro e w2 ⟨rfl, hw2⟩
      have HC2 : Hid (Chain w2 (l.drop (k - 1)) (some ⟨wr.heap.size, 0, none⟩)) := by rw [hw2, drop_back HL.out hlt hkn]; exact chain_push HC.out
      have HB2 : Hid (Below w.heap.size w w2) := by rw [hw2]; exact (HB.out.alloc HB.out.size _).setCell HB.out.size _
      have HH2 : Hid (w2.heap[w.heap.size]? = some (.cells #[.pointer none, .int .u64 0, .pointer none, .pointer none, .int .u64 0, .int .u64 0] 86 (0, 0))) := by
        rw [hw2, Below.heap_setCell _ _ _ _ (by simp; omega), heap_alloc_old _ _ hzl]; exact HH.out
      clear hw2 HC HB HH hv c1
      go_wp2
      go_roundw
      case rel => exact ⟨k - 1, _, by omega, by go_num, rfl, HC2.out, HB2.out, HH2.out⟩
      case measure => simp [intOf]; omega
    · have hk0 : k = 0 := by omega
      subst hk0
      have hv := hch.vptr
      clear hch hbel hcb
      have c2 : wr.cell? ⟨w.heap.size, 2, none⟩ = some (.pointer none) := by rw [World.cell?, HH.out]; rfl
      have c3 : wr.frozen? ⟨w.heap.size, 2, none⟩ = false := by rw [World.frozen?, HH.out]; rfl
      go_wp2_with fail
      refine (pstore_any _ _ _ _ _ c2 c3 hv).mono ?_
      rintro e w2 ⟨rfl, hw2⟩
      have HC2 : Hid (CellOk w2 w.heap.size l) := by
        refine ⟨p, by rw [hw2]; exact World.cell?_setCell_same _ _ _ c2, ?_⟩
        rw [hw2]
        refine Chain.keep (fun b C e => ?_) HC.out
        by_cases hb : b = w.heap.size
        · subst hb; rw [HH.out] at e; cases e
        · rw [Below.heap_setCell _ _ _ _ (by simpa using hb)]; exact e
      have HB2 : Hid (Below w.heap.size w w2) := by rw [hw2]; exact HB.out.setCell (Nat.le_refl _) _
      clear hw2 c2 c3 hv
      go_wp2
      go_ret
      exact ⟨rfl, HC2.out, HB2.out⟩
end Go.Proofs.Qxb6618818a
