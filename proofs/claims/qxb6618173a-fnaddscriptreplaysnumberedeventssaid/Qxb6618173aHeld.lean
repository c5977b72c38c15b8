/-
  append and clear over the held events of a history; what stays.
-/
import Derived.Test.Qxb6618173aHistReads
import Derived.ArgAppend
namespace Go.Proofs.Qxb6618173a
open Go.RowKit

/-- No block but those of held events (47) and histories (49) has turned, and none below B. -/
structure Keeps (B : Nat) (w w' : World) : Prop where
  below : Below B w w'
  kept : ∀ (b : Nat) (o : Obj), w.heap[b]? = some o → (∀ C t fr, o = .cells C t fr → t ≠ 47 ∧ t ≠ 49) → w'.heap[b]? = some o

theorem Keeps.refl (B : Nat) (w : World) : Keeps B w w := ⟨Below.refl _ _, fun _ _ h _ => h⟩
theorem Keeps.trans {B : Nat} {a b c : World} (h : Keeps B a b) (k : Keeps B b c) : Keeps B a c :=
  ⟨h.below.trans k.below, fun x o hx ho => k.kept x o (h.kept x o hx ho) ho⟩
theorem Keeps.alloc {B : Nat} {a w : World} (h : Keeps B a w) (hB : B ≤ w.heap.size) (o : Obj) : Keeps B a (w.alloc o) :=
  ⟨h.below.alloc hB o, fun x u hx hu => by have := h.kept x u hx hu; rw [heap_alloc_old _ _ (lt_of_heap this)]; exact this⟩
theorem Keeps.setCell {B : Nat} {a w : World} (h : Keeps B a w) {g i : Nat} {C : Array Value} {t : TypeId} (hB : B ≤ g) (hg : w.heap[g]? = some (.cells C t (0, 0))) (ht : t = 47 ∨ t = 49) (v : Value) : Keeps B a (w.setCell ⟨g, i, none⟩ v) :=
  ⟨h.below.setCell hB v, fun x u hx hu => by
    have := h.kept x u hx hu
    by_cases e : x = g
    · subst e
      rw [hg] at this
      injection this with this
      have h2 := hu _ _ _ this.symm
      rcases ht with h3 | h3
      · exact absurd h3 h2.1
      · exact absurd h3 h2.2
    · rw [heap_set_other _ _ _ _ e]; exact this⟩
theorem Keeps.draw {B : Nat} {a w : World} (h : Keeps B a w) (n : Nat) : Keeps B a (w.drewN n) := ⟨below_draw h.below n, h.kept⟩
theorem Keeps.drew {B : Nat} {a w : World} (h : Keeps B a w) : Keeps B a w.drew := ⟨h.below.drew, h.kept⟩
theorem Keeps.mono {B B' : Nat} {a w : World} (h : Keeps B a w) (hb : B' ≤ B) : Keeps B' a w := ⟨h.below.mono hb, h.kept⟩

theorem getElem?_lt {C : Array Value} {j : Nat} (h : j < C.size) : ∃ u, C[j]? = some u := ⟨C[j], Array.getElem?_eq_getElem h⟩

/-- A block that holds no held events. -/
def No47 (o : Obj) : Prop := ∀ C fr, o ≠ .cells C 47 fr
/-- No block has turned but those of held events. -/
def Kept47 (w w' : World) : Prop := ∀ (b : Nat) (o : Obj), w.heap[b]? = some o → No47 o → w'.heap[b]? = some o

theorem hcell_app {es : List (Nat × Int)} (x : Nat × Int) {j : Nat} (h : j < 2 * es.length) : hcell (es ++ [x]) j = hcell es j := by
  apply hcell_congr
  rw [List.getElem?_append_left (by omega)]

theorem hcell_new0 (es : List (Nat × Int)) (x : Nat × Int) : hcell (es ++ [x]) (2 * es.length) = .pointer (some ⟨x.1, 0, none⟩) := hcell_even (by simp)
theorem hcell_new1 (es : List (Nat × Int)) (x : Nat × Int) : hcell (es ++ [x]) (2 * es.length + 1) = .int .i64 x.2 := hcell_odd (by simp)

def hcells (es : List (Nat × Int)) : List Value := (List.range (2 * es.length)).map (hcell es)
theorem hcells_length (es : List (Nat × Int)) : (hcells es).length = es.length * 2 := by simp [hcells]; omega
theorem hcells_at {es : List (Nat × Int)} {j : Nat} (h : j < 2 * es.length) : (hcells es)[j]? = some (hcell es j) := by simp [hcells, h]
theorem hcells_snoc (es : List (Nat × Int)) (x : Nat × Int) : hcells (es ++ [x]) = hcells es ++ [.pointer (some ⟨x.1, 0, none⟩), .int .i64 x.2] := by
  unfold hcells
  rw [show 2 * (es ++ [x]).length = 2 * es.length + 1 + 1 by simp; omega, List.range_succ, List.range_succ, List.map_append, List.map_append]
  simp only [List.map_cons, List.map_nil, hcell_new0, hcell_new1]
  rw [List.append_assoc]
  congr 1
  apply List.map_congr_left
  intro j hj
  exact hcell_app x (by simpa using hj)

theorem hsl_of_owns {w : World} {B base : Nat} {v : Value} {es : List (Nat × Int)} (hB : B ≤ base) (hn : 0 < es.length) (h : w.ownsRow base 47 2 v es.length (hcells es)) : HSl w B v es := by
  obtain ⟨_, ⟨_, h0⟩ | ⟨g, cap, cur, rfl, hg, hh, hnc, _, hcs, ht⟩⟩ := h
  · omega
  · refine .inr ⟨g, 0, cap, cur, rfl, by omega, hh, hnc, by omega, by omega, fun j hj => ?_⟩
    have h1 := hcells_at hj
    rw [← ht, List.getElem?_take, if_pos (by omega)] at h1
    rw [Nat.zero_add]
    simpa using h1

theorem add_lit (b o j : Nat) : (⟨b, o, none⟩ : Addr).add j = ⟨b, o + j, none⟩ := by unfold Addr.add; split <;> simp_all

/-- append of one held event, whatever room there is. -/
theorem run_append_held (B : Nat) (v : Value) (es : List (Nat × Int)) (e nb : Nat) (s : Int) (ty : TypeId) (w : World) (h : HSl w B v es) (hB : B ≤ w.heap.size) (hlen : es.length ≤ 65536)
    (hnb : w.heap[nb]? = some (.cells #[.pointer (some ⟨e, 0, none⟩), .int .i64 s] 47 (0, 0))) :
    ∃ v' w', (Builtin.append_ #[45, 45] ty #[v, .slice (some ⟨nb, 0, none⟩) 1 1]).run Try.prog w = .ok v' w' ∧ HSl w' B v' (es ++ [(e, s)]) ∧ Below B w w' ∧
      Kept47 w w' := by
  obtain ⟨i, hi, hzz⟩ := Option.map_eq_some_iff.1 info47
  simp only [Prod.mk.injEq] at hzz
  obtain ⟨hz, hs, hby⟩ := hzz
  have hnews : ∀ j u, [Value.pointer (some ⟨e, 0, none⟩), .int .i64 s][j]? = some u → w.cell? ((⟨nb, 0, none⟩ : Addr).add j) = some u := by
    intro j u hj
    rw [add_lit, Nat.zero_add, cell_of_heap hnb]
    simpa using hj
  have hone : ∀ u ∈ [Value.pointer (some ⟨e, 0, none⟩), .int .i64 s], u.oneCell' = true := by
    intro u hu
    simp at hu
    rcases hu with rfl | rfl <;> rfl
  have hgrow : ∀ v' w', w'.ownsRow w.heap.size 47 2 v' (es.length + 1) (hcells es ++ [.pointer (some ⟨e, 0, none⟩), .int .i64 s]) → w.grownBy w' none →
      HSl w' B v' (es ++ [(e, s)]) ∧ Below B w w' ∧ Kept47 w w' := by
    intro v' w' ho hg
    refine ⟨hsl_of_owns hB (by simp) (by rw [hcells_snoc, show (es ++ [(e, s)]).length = es.length + 1 by simp]; exact ho), (Below.refl _ _).grown hg hB (fun k hk => by cases hk), fun b o hb _ => ?_⟩
    rw [hg.block b (lt_of_heap hb) (by simp)]; exact hb
  have hml : es.length + 1 ≤ maxLen := by unfold maxLen; omega
  rcases h with ⟨rfl, a, rfl⟩ | ⟨g, o, cap, C, rfl, hBg, hg, hlc, hc0, hC, hc⟩
  · cases a with
    | none =>
      obtain ⟨v', w', hrun, r1, r2, _⟩ := run_append_own (P := Try.prog) w w.heap.size 45 ty 47 i _ 2 16 Try.underlying45 hi hz hs hby rfl (by omega) (.slice none 0 0) 0 [] (World.ownsRow_nil w _ 47 2) ⟨nb, 0, none⟩ 1 1 _ rfl hnews hone hml (by omega) (Nat.le_refl _)
      exact ⟨v', w', hrun, hgrow v' w' r1 r2⟩
    | some x =>
      obtain ⟨v', w', hrun, r1, r2⟩ := run_append_arg_grows (P := Try.prog) w 45 ty 47 i _ 2 16 Try.underlying45 hi hz hs hby rfl (by omega) x 0 0 [] rfl (fun j u hj => by simp at hj) ⟨nb, 0, none⟩ 1 1 _ rfl hnews (by omega) hml (by omega)
      exact ⟨v', w', hrun, hgrow v' w' r1 r2⟩
  · by_cases hroom : es.length + 1 ≤ cap
    · have hrun := run_append_room_cells (P := Try.prog) w 45 ty 47 i Try.underlying45 hi g o es.length cap ⟨nb, 0, none⟩ 1 1 [.pointer (some ⟨e, 0, none⟩), .int .i64 s] (by rw [hs]; rfl) hnews hone hroom
        (fun j hj => by rw [cell_of_heap hg, hs]; simp at hj; obtain ⟨u, hu⟩ := getElem?_lt (C := C) (j := o + es.length * 2 + j) (by omega); rw [hu]; rfl) (fun j hj => frozen_of_heap hg _)
      rw [hs] at hrun
      refine ⟨_, _, hrun, ?_, ?_, ?_⟩
      · have h1 := heap_set_at (heap_set_at hg (o + es.length * 2) (.pointer (some ⟨e, 0, none⟩))) (o + es.length * 2 + 1) (.int .i64 s)
        refine .inr ⟨g, o, cap, _, by simp, hBg, h1, by simpa using hroom, hc0, by simpa using hC, fun j hj => ?_⟩
        simp only [List.length_append, List.length_cons, List.length_nil] at hj
        rw [Array.getElem?_setIfInBounds, Array.getElem?_setIfInBounds]
        by_cases e1 : j = 2 * es.length + 1
        · subst e1
          rw [if_pos (by omega), hcell_new1, if_pos (by simp; omega)]
        · rw [if_neg (by omega)]
          by_cases e0 : j = 2 * es.length
          · subst e0
            rw [if_pos (by omega), hcell_new0, if_pos (by omega)]
          · rw [if_neg (by omega), hc j (by omega), hcell_app _ (by omega)]
      · exact ((Below.refl B w).setCell hBg _).setCell hBg _
      · intro b ob hb hnot
        have hbg : b ≠ g := fun h => by subst h; rw [hg] at hb; injection hb with hb; exact hnot _ _ hb.symm
        show ((w.setCell ⟨g, o + es.length * 2, none⟩ _).setCell ⟨g, o + es.length * 2 + 1, none⟩ _).heap[b]? = _
        rw [heap_set_other _ _ _ _ hbg, heap_set_other _ _ _ _ hbg]
        exact hb
    · obtain ⟨v', w', hrun, r1, r2⟩ := run_append_arg_grows (P := Try.prog) w 45 ty 47 i _ 2 16 Try.underlying45 hi hz hs hby rfl (by omega) ⟨g, o, none⟩ es.length cap (hcells es) (hcells_length es)
        (fun j u hj => by
          have hj2 := (List.getElem?_eq_some_iff.1 hj).1
          rw [hcells_length] at hj2
          rw [hcells_at (by omega)] at hj
          rw [add_lit, cell_of_heap hg, hc j (by omega)]; exact hj) ⟨nb, 0, none⟩ 1 1 _ rfl hnews (by omega) hml (by omega)
      exact ⟨v', w', hrun, hgrow v' w' r1 r2⟩

theorem wpList_append_held {ops : Array Oper} {rest : List Oper} {o : Oper} {a : Act} {Q : Exit → Act → World → Prop} (w : World) (hgd : o.guard = none) (s x : Operand)
    (ho : o.op = .call { callee := .builtin .append, args := #[s, x], argTypes := #[45, 45] }) (B : Nat) (v : Value) (es : List (Nat × Int)) (e nb : Nat) (z : Int) (hs : a.eval s = v) (hx : a.eval x = .slice (some ⟨nb, 0, none⟩) 1 1)
    (h : HSl w B v es) (hB : B ≤ w.heap.size) (hlen : es.length ≤ 65536) (hnb : w.heap[nb]? = some (.cells #[.pointer (some ⟨e, 0, none⟩), .int .i64 z] 47 (0, 0)))
    (hK : ∀ v' w', Hid (HSl w' B v' (es ++ [(e, z)])) → Hid (Below B w w') → Hid (Kept47 w w') → wpList Try.prog ops Q rest (a.put o.dst v') w') :
    wpList Try.prog ops Q (o :: rest) a w := by
  refine wpList_plain hgd fun K hK' => ?_
  obtain ⟨v', w', hrun, h1, h2, h3⟩ := run_append_held B v es e nb z o.type w h hB hlen hnb
  unfold Oper.wp
  simp [execOp, ho, resolve, invoke, builtin, hs, hx, hrun, Result.andThen]
  exact hK' _ _ (hK v' w' h1 h2 h3)

theorem setCells_other (g : Nat) : ∀ (vs : List Value) (o : Nat) (w : World) (b : Nat), b ≠ g → (w.setCells g o vs).heap[b]? = w.heap[b]?
  | [], _, _, _, _ => rfl
  | v :: r, o, w, b, h => by rw [World.setCells, setCells_other g r _ _ _ h, heap_set_other _ _ _ _ h]
theorem setCells_below {B g : Nat} (hB : B ≤ g) : ∀ (vs : List Value) (o : Nat) (w0 w : World), Below B w0 w → Below B w0 (w.setCells g o vs)
  | [], _, _, _, h => h
  | v :: r, o, w0, _, h => setCells_below hB r (o + 1) w0 _ (h.setCell hB v)
theorem setCells_size (g : Nat) : ∀ (vs : List Value) (o : Nat) (w : World), (w.setCells g o vs).heap.size = w.heap.size
  | [], _, _ => rfl
  | v :: r, o, _ => by rw [World.setCells, setCells_size g r]; simp

/-- clear of the held events: their cells are turned, and nothing else. -/
theorem run_clear_held (B : Nat) (v : Value) (es : List (Nat × Int)) (ty : TypeId) (w : World) (h : HSl w B v es) :
    ∃ w', (Builtin.clear_ #[45] ty #[v]).run Try.prog w = .ok (.tuple #[]) w' ∧ Below B w w' ∧ w'.heap.size = w.heap.size ∧
      Kept47 w w' := by
  rcases h with ⟨rfl, a, rfl⟩ | ⟨g, o, cap, C, rfl, hBg, hg, hlc, hc0, hC, hc⟩
  · exact ⟨w, by cases a <;> simp [Builtin.clear_, run_underlying Try.underlying45], Below.refl _ _, rfl, fun b o hb _ => hb⟩
  · by_cases hn : es.length = 0
    · refine ⟨w, by rw [hn]; simp [Builtin.clear_, run_underlying Try.underlying45], Below.refl _ _, rfl, fun b o hb _ => hb⟩
    · obtain ⟨i, hi, hzz⟩ := Option.map_eq_some_iff.1 info47
      simp only [Prod.mk.injEq] at hzz
      obtain ⟨hz, hs, hby⟩ := hzz
      have hv : (zeroValue 47).run Try.prog w = .ok (.agg #[.pointer none, .int .i64 0]) w := by simp [zeroValue, typeInfo, hi, hz, Result.andThen]
      have hlen : (Builtin.zeroCells (Value.agg #[.pointer none, .int .i64 0]).cells es.length).toList.length = es.length * 2 := by
        rw [Array.length_toList, size_zeroCells]; rfl
      have hst := run_storeCells_cells (P := Try.prog) g o (Builtin.zeroCells (Value.agg #[.pointer none, .int .i64 0]).cells es.length).toList 0 w
        (fun j hj => by rw [hlen] at hj; rw [cell_of_heap hg]; obtain ⟨u, hu⟩ := getElem?_lt (C := C) (j := o + 0 + j) (by omega); rw [hu]; rfl) (fun j hj => frozen_of_heap hg _)
        (fun u hu => by
          obtain ⟨j, hj, e⟩ := List.getElem_of_mem hu
          have hz2 : (Value.agg #[.pointer none, .int .i64 0]).cells = #[.pointer none, .int .i64 0] := rfl
          rw [← e]
          simp only [Builtin.zeroCells, hz2, Array.getElem_toList, Array.getElem_map, Array.getElem_range]
          have h2 : j % 2 = 0 ∨ j % 2 = 1 := by omega
          rcases h2 with h2 | h2
          · rw [show j % (#[Value.pointer none, .int .i64 0] : Array Value).size = 0 from h2]; rfl
          · rw [show j % (#[Value.pointer none, .int .i64 0] : Array Value).size = 1 from h2]; rfl)
      obtain ⟨k, hk⟩ : ∃ k, es.length = k + 1 := ⟨es.length - 1, by omega⟩
      simp only [Nat.add_zero] at hst
      generalize hW : w.setCells g o (Builtin.zeroCells (Value.agg #[.pointer none, .int .i64 0]).cells es.length).toList = W at hst
      refine ⟨W, ?_, by rw [← hW]; exact setCells_below hBg _ _ _ _ (Below.refl B w), by rw [← hW]; exact setCells_size _ _ _ _, fun b ob hb hnot => ?_⟩
      · rw [hk] at hst ⊢
        simp [Builtin.clear_, run_underlying Try.underlying45, hv, hst, Result.andThen]
      · have hbg : b ≠ g := fun h => by subst h; rw [hg] at hb; injection hb with hb; exact hnot _ _ hb.symm
        rw [← hW, setCells_other _ _ _ _ _ hbg]
        exact hb
end Go.Proofs.Qxb6618173a
