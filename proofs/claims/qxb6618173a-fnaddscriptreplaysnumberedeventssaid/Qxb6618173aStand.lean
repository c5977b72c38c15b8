/-
  What stands behind a replay.
-/
import Derived.Test.Qxb6618173aZZAfter
namespace Go.Proofs.Qxb6618173a
open Go.RowKit

/-- How many held events a replay hands out. -/
theorem many (n : Nat) (since last : Int) (h1 : since ≤ last) : ∃ m d : Nat, n - d = m ∧ d ≤ n ∧ (since + n < last → m = n) ∧ (last ≤ since + n → (m : Int) = last - since) ∧ d = n - m ∧ m ≤ n := by
  by_cases h : since + n < last
  · exact ⟨n, 0, by omega, by omega, fun _ => rfl, fun h2 => by omega, by omega, by omega⟩
  · refine ⟨(last - since).toNat, n - (last - since).toNat, by omega, by omega, fun h2 => by omega, fun _ => by omega, rfl, by omega⟩

theorem Hist.below {w w' : World} {B hb : Nat} {es : List (Nat × Int)} {by_ : Int} (hb' : Below w.heap.size w w') (h : Hist w B hb es by_) : Hist w' B hb es by_ :=
  h.keep (fun b o hb => by rw [hb'.block b (lt_of_heap hb)]; exact hb)

theorem owns_below {w w' : World} {base : Nat} {e : TypeId} {size : Nat} {v : Value} {n : Nat} {xs : List Value} (hb : Below w.heap.size w w') (h : w.ownsRow base e size v n xs) : w'.ownsRow base e size v n xs := by
  obtain ⟨h1, h2⟩ := h
  refine ⟨h1, ?_⟩
  rcases h2 with h2 | ⟨g, cap, cur, hv, hg, hh, r⟩
  · exact .inl h2
  · exact .inr ⟨g, cap, cur, hv, hg, by rw [hb.block g (lt_of_heap hh)]; exact hh, r⟩

/-- What stands behind the replay: the sizes, the events, the history, the replay's own block and its events. -/
structure Stand (w1 wx : World) (B hb eb rb B2 n m : Nat) (l : List Int) (a' av : Option Addr) (capv : Nat) (first by_ last gone : Int) (es : List (Nat × Int)) : Prop where
  hist : Hist wx B hb es by_
  row : Row wx a' l
  evs : Evs wx eb first n
  own : wx.ownsRow B2 29 1 (.slice av m capv) m (ptrs es (es.length - m) m)
  r : wx.heap[rb]? = some (rObj last gone (.slice av m capv))
  below : Below w1.heap.size w1 wx

theorem Stand.draw {w1 wx : World} {B hb eb rb B2 n m : Nat} {l : List Int} {a' av : Option Addr} {capv : Nat} {first by_ last gone : Int} {es : List (Nat × Int)} (q : Nat) (h : Stand w1 wx B hb eb rb B2 n m l a' av capv first by_ last gone es) :
    Stand w1 (wx.drewN q) B hb eb rb B2 n m l a' av capv first by_ last gone es :=
  ⟨h.hist, h.row, h.evs, h.own, h.r, below_draw h.below q⟩

theorem ptrs_at {es : List (Nat × Int)} {d m j : Nat} {x : Nat × Int} (hj : j < m) (h : es[d + j]? = some x) : (ptrs es d m)[j]? = some (.pointer (some ⟨x.1, 0, none⟩)) := by
  unfold ptrs
  rw [List.getElem?_map, List.getElem?_take, if_pos hj, List.getElem?_drop, h]
  rfl

theorem Stand.event {w1 wx : World} {B hb eb rb B2 n m : Nat} {l : List Int} {a' av : Option Addr} {capv : Nat} {first by_ last gone : Int} {es : List (Nat × Int)} (h : Stand w1 wx B hb eb rb B2 n m l a' av capv first by_ last gone es) {j : Nat} (hj : j < m) {x : Nat × Int} (hx : es[es.length - m + j]? = some x) :
    ∃ g, av = some ⟨g, 0, none⟩ ∧ wx.cell? ⟨g, j, none⟩ = some (.pointer (some ⟨x.1, 0, none⟩)) := by
  have ho := h.own
  rcases ho.2 with ⟨_, h0⟩ | ⟨g, cap, cur, hv, _⟩
  · omega
  · injection hv with hv1 _ _
    subst hv1
    exact ⟨g, rfl, by rw [ho.cellAt j (by omega)]; exact ptrs_at hj hx⟩

end Go.Proofs.Qxb6618173a
