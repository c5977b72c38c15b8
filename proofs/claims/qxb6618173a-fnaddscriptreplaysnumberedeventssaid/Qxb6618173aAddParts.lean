/-
  What add does to a history, step by step: the plain functions, and the world's facts.
-/
import Derived.Test.Qxb6618173aHeld
namespace Go.Proofs.Qxb6618173a
open Go.RowKit

def sumS : List (Nat × Int) → Int
  | [] => 0
  | x :: r => x.2 + sumS r
def nonneg (es : List (Nat × Int)) : Prop := ∀ x ∈ es, 0 ≤ x.2
theorem sumS_nonneg : ∀ {es : List (Nat × Int)}, nonneg es → 0 ≤ sumS es
  | [], _ => Int.le_refl _
  | x :: r, h => by
    have h1 := h x (by simp)
    have h2 := sumS_nonneg (es := r) (fun y hy => h y (by simp [hy]))
    simp only [sumS]; omega
theorem nonneg_tail {x : Nat × Int} {es : List (Nat × Int)} (h : nonneg (x :: es)) : nonneg es := fun y hy => h y (by simp [hy])
theorem nonneg_head {x : Nat × Int} {es : List (Nat × Int)} (h : nonneg (x :: es)) : 0 ≤ x.2 := h x (by simp)

/-- What add keeps of the held events: the longest end that leaves room for one more of size z. -/
def trim (he hby z : Int) : List (Nat × Int) → List (Nat × Int)
  | [] => []
  | x :: r => if ((x :: r).length : Int) < he ∧ sumS (x :: r) + z ≤ hby then x :: r else trim he hby z r
def added (he hby : Int) (es : List (Nat × Int)) (x : Nat × Int) : List (Nat × Int) :=
  if he < 1 ∨ hby < x.2 then [] else trim he hby x.2 es ++ [x]
theorem trim_keep {he hby z : Int} {es : List (Nat × Int)} (h : (es.length : Int) < he ∧ sumS es + z ≤ hby) : trim he hby z es = es := by
  cases es with
  | nil => rfl
  | cons x r => rw [trim, if_pos h]
theorem trim_drop {he hby z : Int} {x : Nat × Int} {r : List (Nat × Int)} (h : ¬ (((x :: r).length : Int) < he ∧ sumS (x :: r) + z ≤ hby)) : trim he hby z (x :: r) = trim he hby z r := by
  rw [trim, if_neg h]

/-- The history's fields and its first held event. -/
theorem Hist.cons {w : World} {B hb : Nat} {x : Nat × Int} {r : List (Nat × Int)} {by_ : Int} (h : Hist w B hb (x :: r) by_) :
    ∃ g o cap C, w.heap[hb]? = some (.cells #[.slice (some ⟨g, o, none⟩) (r.length + 1) cap, .int .i64 by_] 49 (0, 0)) ∧ B ≤ hb ∧ B ≤ g ∧ w.heap[g]? = some (.cells C 47 (0, 0)) ∧ r.length + 1 ≤ cap ∧ o + 2 * cap ≤ C.size ∧
      (∀ j, j < 2 * (r.length + 1) → C[o + j]? = some (hcell (x :: r) j)) := by
  obtain ⟨hB, v, hv, hs⟩ := h
  rcases hs with ⟨h0, _⟩ | ⟨g, o, cap, C, rfl, hBg, hg, hlc, _, hC, hc⟩
  · cases h0
  · exact ⟨g, o, cap, C, hv, hB, hBg, hg, hlc, hC, hc⟩

theorem hcell_tail (x : Nat × Int) (r : List (Nat × Int)) (j : Nat) : hcell (x :: r) (j + 2) = hcell r j := by
  have h1 : (j + 2) % 2 = j % 2 := by omega
  have h2 : (j + 2) / 2 = j / 2 + 1 := by omega
  simp [hcell, h1, h2]

/-- The first held event goes. -/
theorem Hist.pop {w : World} {B hb g o cap : Nat} {x : Nat × Int} {r : List (Nat × Int)} {by_ by2 : Int} {C : Array Value} (hv : w.heap[hb]? = some (.cells #[.slice (some ⟨g, o, none⟩) (r.length + 1) cap, .int .i64 by_] 49 (0, 0)))
    (hB : B ≤ hb) (hBg : B ≤ g) (hg : w.heap[g]? = some (.cells C 47 (0, 0))) (hlc : r.length + 1 ≤ cap) (hC : o + 2 * cap ≤ C.size) (hc : ∀ j, j < 2 * (r.length + 1) → C[o + j]? = some (hcell (x :: r) j)) (hne : g ≠ hb)
    (u0 u1 : Value) (a : Option Addr) (ha : a = if cap - 1 = 0 then some ⟨g, o, none⟩ else some ⟨g, o + 2, none⟩) :
    Hist ((((w.setCell ⟨hb, 1, none⟩ (.int .i64 by2)).setCell ⟨g, o, none⟩ u0).setCell ⟨g, o + 1, none⟩ u1).setCell ⟨hb, 0, none⟩ (.slice a r.length (cap - 1))) B hb r by2 ∧
    Keeps B w ((((w.setCell ⟨hb, 1, none⟩ (.int .i64 by2)).setCell ⟨g, o, none⟩ u0).setCell ⟨g, o + 1, none⟩ u1).setCell ⟨hb, 0, none⟩ (.slice a r.length (cap - 1))) := by
  have h1 := heap_set_at hv 1 (.int .i64 by2)
  have g1 : (w.setCell ⟨hb, 1, none⟩ (.int .i64 by2)).heap[g]? = some (.cells C 47 (0, 0)) := by rw [heap_set_other _ _ _ _ hne]; exact hg
  have g2 := heap_set_at g1 o u0
  have h2 := (heap_set_other (w.setCell ⟨hb, 1, none⟩ (.int .i64 by2)) ⟨g, o, none⟩ u0 hb (Ne.symm hne)).trans h1
  have g3 := heap_set_at g2 (o + 1) u1
  have h3 := (heap_set_other ((w.setCell ⟨hb, 1, none⟩ (.int .i64 by2)).setCell ⟨g, o, none⟩ u0) ⟨g, o + 1, none⟩ u1 hb (Ne.symm hne)).trans h2
  have h4 := heap_set_at h3 0 (.slice a r.length (cap - 1))
  have g4 := (heap_set_other (((w.setCell ⟨hb, 1, none⟩ (.int .i64 by2)).setCell ⟨g, o, none⟩ u0).setCell ⟨g, o + 1, none⟩ u1) ⟨hb, 0, none⟩ (.slice a r.length (cap - 1)) g hne).trans g3
  refine ⟨⟨hB, _, h4, ?_⟩, ((((Keeps.refl B w).setCell hB hv (.inr rfl) _).setCell hBg g1 (.inl rfl) _).setCell hBg g2 (.inl rfl) _).setCell hB h3 (.inr rfl) _⟩
  by_cases hcap : cap - 1 = 0
  · have hr : r = [] := List.eq_nil_of_length_eq_zero (by omega)
    subst hr
    exact .inl ⟨rfl, a, by rw [hcap]; rfl⟩
  · rw [if_neg hcap] at ha
    refine .inr ⟨g, o + 2, cap - 1, _, by rw [ha], hBg, g4, by omega, by omega, by simp; omega, fun j hj => ?_⟩
    rw [Array.getElem?_setIfInBounds, Array.getElem?_setIfInBounds, if_neg (by omega), if_neg (by omega), show o + 2 + j = o + (j + 2) by omega, hc (j + 2) (by omega), hcell_tail]

theorem HSl.keep {w w' : World} {B : Nat} {v : Value} {es : List (Nat × Int)} (h : HSl w B v es) (hk : ∀ (b : Nat) (C : Array Value), w.heap[b]? = some (.cells C 47 (0, 0)) → w'.heap[b]? = some (.cells C 47 (0, 0))) : HSl w' B v es := by
  rcases h with h | ⟨g, o, cap, C, h1, h2, h3, h4⟩
  · exact .inl h
  · exact .inr ⟨g, o, cap, C, h1, h2, hk g C h3, h4⟩
theorem Hist.keep {w w' : World} {B hb : Nat} {es : List (Nat × Int)} {by_ : Int} (h : Hist w B hb es by_) (hk : ∀ (b : Nat) (o : Obj), w.heap[b]? = some o → w'.heap[b]? = some o) : Hist w' B hb es by_ := by
  obtain ⟨hB, v, hv, hs⟩ := h
  exact ⟨hB, v, hk _ _ hv, hs.keep (fun b C hb => hk b _ hb)⟩
theorem Hist.alloc {w : World} {B hb : Nat} {es : List (Nat × Int)} {by_ : Int} (h : Hist w B hb es by_) (o : Obj) : Hist (w.alloc o) B hb es by_ :=
  h.keep (fun b ob hb => by rw [heap_alloc_old _ _ (lt_of_heap hb)]; exact hb)

theorem no47 {C : Array Value} {t : TypeId} {fr : Nat × Nat} (h : t ≠ 47) : No47 (.cells C t fr) := fun _ _ e => by injection e with _ e2; exact h e2

def cfgObj (he hby : Int) : Obj := .cells #[.int .i64 he, .int .i64 hby] 35 (0, 0)

theorem pop_step {w0 wr : World} {B hb g o cap m nq : Nat} {x : Nat × Int} {r : List (Nat × Int)} {sx x2 : Int} {C : Array Value} {he hby : Int}
    (HO : Hid (wr.heap[hb]? = some (.cells #[.slice (some ⟨g, o, none⟩) (r.length + 1) cap, .int .i64 (sumS (x :: r))] 49 (0, 0)) ∧ wr.heap[g]? = some (.cells C 47 (0, 0)) ∧ r.length + 1 ≤ cap ∧ o + 2 * cap ≤ C.size ∧ (∀ j, j < 2 * (r.length + 1) → C[o + j]? = some (hcell (x :: r) j))))
    (HM : Hid (r.length + 1 = m ∧ sumS (x :: r) = sx ∧ x.2 = x2)) (HK : Hid (Keeps B w0 wr)) (hB : B ≤ hb) (hBg : B ≤ g) (hne : ¬ g = hb) (hcfg : wr.heap[w0.heap.size]? = some (cfgObj he hby))
    (a : Option Addr) (ha : a = if cap - 1 = 0 then some ⟨g, o, none⟩ else some ⟨g, o + 2, none⟩) :
    Hist (((((wr.drewN nq).setCell ⟨hb, 1, none⟩ (.int .i64 (sx - x2))).setCell ⟨g, o, none⟩ (.pointer none)).setCell ⟨g, o + 1, none⟩ (.int .i64 0)).setCell ⟨hb, 0, none⟩ (.slice a (m - 1) (cap - 1))) B hb r (sumS r) ∧
    (((((wr.drewN nq).setCell ⟨hb, 1, none⟩ (.int .i64 (sx - x2))).setCell ⟨g, o, none⟩ (.pointer none)).setCell ⟨g, o + 1, none⟩ (.int .i64 0)).setCell ⟨hb, 0, none⟩ (.slice a (m - 1) (cap - 1))).heap[w0.heap.size]? = some (cfgObj he hby) ∧
    Keeps B w0 (((((wr.drewN nq).setCell ⟨hb, 1, none⟩ (.int .i64 (sx - x2))).setCell ⟨g, o, none⟩ (.pointer none)).setCell ⟨g, o + 1, none⟩ (.int .i64 0)).setCell ⟨hb, 0, none⟩ (.slice a (m - 1) (cap - 1))) := by
  obtain ⟨hv, hg, hlc, hC, hc⟩ := HO.out
  obtain ⟨h1, h2, h3⟩ := HM.out
  have e1 : m - 1 = r.length := by omega
  have e2 : sx - x2 = sumS r := by rw [← h2, ← h3]; simp only [sumS]; omega
  rw [e1, e2]
  have hp := Hist.pop (w := wr.drewN nq) (by2 := sumS r) hv hB hBg hg hlc hC hc hne (.pointer none) (.int .i64 0) a ha
  have hk0 : Keeps B (wr.drewN nq) (((((wr.drewN nq).setCell ⟨hb, 1, none⟩ (.int .i64 (sumS r))).setCell ⟨g, o, none⟩ (.pointer none)).setCell ⟨g, o + 1, none⟩ (.int .i64 0)).setCell ⟨hb, 0, none⟩ (.slice a r.length (cap - 1))) := hp.2
  refine ⟨hp.1, hk0.kept _ _ hcfg (fun C t fr e => ?_), (HK.out.draw nq).trans hk0⟩
  unfold cfgObj at e
  injection e with e1 e2 e3
  subst e2
  exact ⟨by decide, by decide⟩

theorem keeps_of {B : Nat} {w w' : World} (hb : Below B w w') (hk : Kept47 w w') : Keeps B w w' :=
  ⟨hb, fun b o h hn => hk b o h (fun C fr e => (hn C 47 fr e).1 rfl)⟩

theorem hsl_set49 {w : World} {B hb i : Nat} {v : Value} {es : List (Nat × Int)} {D : Array Value} (h : HSl w B v es) (hv : w.heap[hb]? = some (.cells D 49 (0, 0))) (u : Value) : HSl (w.setCell ⟨hb, i, none⟩ u) B v es :=
  h.keep (fun b C hC => by
    have : b ≠ hb := fun e => by subst e; rw [hv] at hC; injection hC with hC; injection hC with _ h2; exact absurd h2 (by decide)
    rw [heap_set_other _ _ _ _ this]; exact hC)

theorem push_end {w w2 : World} {B hb : Nat} {v v' : Value} {fs : List (Nat × Int)} {s t : Int} (hB : B ≤ hb) (h1 : HSl w2 B v' fs) (hv : w2.heap[hb]? = some (.cells #[v, .int .i64 s] 49 (0, 0))) (hk : Keeps B w w2) :
    Hist ((w2.setCell ⟨hb, 0, none⟩ v').setCell ⟨hb, 1, none⟩ (.int .i64 t)) B hb fs t ∧ Keeps B w ((w2.setCell ⟨hb, 0, none⟩ v').setCell ⟨hb, 1, none⟩ (.int .i64 t)) := by
  have g1 := heap_set_at hv 0 v'
  have g2 := heap_set_at g1 1 (.int .i64 t)
  exact ⟨⟨hB, v', g2, hsl_set49 (hsl_set49 h1 hv _) g1 _⟩, (hk.setCell hB hv (.inr rfl) _).setCell hB g1 (.inr rfl) _⟩

end Go.Proofs.Qxb6618173a
