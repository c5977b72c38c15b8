/-
  drop, plainly; and 'copy' of a row of runs onto itself.
-/
import Derived.Test.Qxb6618191aClear
namespace Go.Proofs.Qxb6618191a
open Go.RowKit

/-- drop under way: i runs of A have ended. -/
structure DropS (A : List (Int × Int)) (pos : Int) (L0 : List (Int × Int)) (hd0 i : Nat) (h of_ ol : Int) (rs : List (Int × Int)) (hd : Nat) : Prop where
  lt : i < A.length
  ended : ∀ j, j < i → ls A j < pos
  isF : of_ = fs A i
  isL : ol = ls A i
  held : h = (A.length : Int) - i
  rest : rs.drop hd = A.drop (i + 1)
  hd_le : hd ≤ rs.length
  len : rs.length ≤ L0.length
  first : i = 0 → rs = L0 ∧ hd = hd0
  later : 0 < i → 2 * hd ≤ rs.length

/-- drop done. -/
def DropD (A : List (Int × Int)) (pos : Int) (L0 : List (Int × Int)) (hd0 : Nat) (h of_ ol : Int) (rs : List (Int × Int)) (hd : Nat) : Prop :=
  (∃ i, DropS A pos L0 hd0 i h of_ ol rs hd ∧ pos ≤ ol) ∨ ((∀ j, j < A.length → ls A j < pos) ∧ h = 0 ∧ of_ = fs A (A.length - 1) ∧ ol = ls A (A.length - 1) ∧ rs = [] ∧ hd = 0)

theorem DropS.count {A : List (Int × Int)} {pos : Int} {L0 : List (Int × Int)} {hd0 i : Nat} {h of_ ol : Int} {rs : List (Int × Int)} {hd : Nat} (d : DropS A pos L0 hd0 i h of_ ol rs hd) : h = (rs.length : Int) - hd + 1 := by
  have h1 := congrArg List.length d.rest
  simp only [List.length_drop] at h1
  have := d.lt; have := d.held; have := d.hd_le
  omega

theorem DropS.step {A : List (Int × Int)} {pos : Int} {L0 : List (Int × Int)} {hd0 i : Nat} {h of_ ol : Int} {rs : List (Int × Int)} {hd : Nat} (d : DropS A pos L0 hd0 i h of_ ol rs hd) (hp : ol < pos) (hh : hd < rs.length)
    {rs' : List (Int × Int)} {hd' : Nat} (hc : (rs' = rs ∧ hd' = hd + 1 ∧ 2 * (hd + 1) ≤ rs.length + 1 - 1) ∨ (rs' = rs.drop (hd + 1) ∧ hd' = 0)) : DropS A pos L0 hd0 (i + 1) (h - 1) (fs rs hd) (ls rs hd) rs' hd' := by
  have h1 := congrArg List.length d.rest
  simp only [List.length_drop] at h1
  have e0 : rs[hd]? = A[i + 1]? := by
    have := congrArg (fun l => l[0]?) d.rest
    simpa [List.getElem?_drop] using this
  have e1 : fs rs hd = fs A (i + 1) ∧ ls rs hd = ls A (i + 1) := by unfold fs ls; rw [e0]; exact ⟨rfl, rfl⟩
  have e2 : rs.drop (hd + 1) = A.drop (i + 1 + 1) := by
    have := congrArg (List.drop 1) d.rest
    simpa [List.drop_drop] using this
  have hlt := d.lt
  refine ⟨by omega, ?_, e1.1, e1.2, ?_, ?_, ?_, ?_, by omega, ?_⟩
  · intro j hj
    by_cases e : j = i
    · subst e; rw [← d.isL]; exact hp
    · exact d.ended j (by omega)
  · have := d.held; omega
  · rcases hc with ⟨rfl, rfl, _⟩ | ⟨rfl, rfl⟩
    · exact e2
    · exact e2
  · rcases hc with ⟨rfl, rfl, _⟩ | ⟨rfl, rfl⟩ <;> omega
  · rcases hc with ⟨rfl, rfl, _⟩ | ⟨rfl, rfl⟩
    · exact d.len
    · have := d.len; simp only [List.length_drop]; omega
  · intro _
    rcases hc with ⟨rfl, rfl, h3⟩ | ⟨rfl, rfl⟩ <;> omega

theorem DropS.done {A : List (Int × Int)} {pos : Int} {L0 : List (Int × Int)} {hd0 i : Nat} {h of_ ol : Int} {rs : List (Int × Int)} {hd : Nat} (d : DropS A pos L0 hd0 i h of_ ol rs hd) (hp : ol < pos) (h0 : h - 1 = 0) : DropD A pos L0 hd0 0 of_ ol [] 0 := by
  have hl := d.lt
  have hh := d.held
  have hi : i = A.length - 1 := by omega
  refine .inr ⟨fun j hj => ?_, rfl, by rw [← hi]; exact d.isF, by rw [← hi]; exact d.isL, rfl, rfl⟩
  by_cases e : j = i
  · subst e; rw [← d.isL]; exact hp
  · exact d.ended j (by omega)

theorem run_copy_row2 {P : Program} (w : World) (dT sT ty elem : TypeId) (g o dLen dCap : Nat) (a : Addr) (sLen sCap : Nat) (cur : Array Value) (t : TypeId) (cs : List Value)
    (hu : P.underlying dT = some (.slice elem)) (hs : (P.info? elem).map (·.size) = some 2)
    (hg : w.heap[g]? = some (.cells cur t (0, 0))) (n : Nat) (hn : n = Nat.min sLen dLen) (hc : cs.length = n * 2)
    (hsrc : ∀ j v, cs[j]? = some v → w.cell? (a.add j) = some v) (hfit : o + cs.length ≤ cur.size) (h1 : ∀ v ∈ cs, v.oneCell' = true) :
    (Builtin.copy_ #[dT, sT] ty #[.slice (some ⟨g, o, none⟩) dLen dCap, .slice (some a) sLen sCap]).run P w =
      .ok (goInt n) (w.setRow g (cur.toList.take o ++ cs ++ cur.toList.drop (o + cs.length)).toArray) := by
  have hl := run_loadCells_list (P := P) w a cs hsrc
  rw [hc] at hl
  have hst := run_storeCells_at P g o t cs 0 cur w hg (by simpa using hfit) h1
  cases hq : P.info? elem with
  | none => simp [hq] at hs
  | some i =>
    have hi : i.size = 2 := by simpa [hq] using hs
    simp [Builtin.copy_, run_underlying hu, Builtin.lenOf, Builtin.firstCells, sizeOf, typeInfo, hq, hi, ← hn, hl, hst]

theorem run_copy_none2 {P : Program} (w : World) (dT sT ty elem : TypeId) (d a : Option Addr) (dLen dCap sLen sCap : Nat) (hu : P.underlying dT = some (.slice elem)) (hs : (P.info? elem).map (·.size) = some 2) (hn : Nat.min sLen dLen = 0) :
    (Builtin.copy_ #[dT, sT] ty #[.slice d dLen dCap, .slice a sLen sCap]).run P w = .ok (goInt 0) w := by
  cases hq : P.info? elem with
  | none => simp [hq] at hs
  | some i =>
    have hl : ∀ (x : Addr), (loadCells x 0).run P w = .ok #[] w := fun x => by simpa using run_loadCells_list (P := P) w x [] (by simp)
    cases d <;> cases a <;> simp [Builtin.copy_, run_underlying hu, Builtin.lenOf, Builtin.firstCells, sizeOf, typeInfo, hq, hn, storeCells, hl]

theorem size45 : (Try.prog.info? 45).map (·.size) = some 2 := by kernel_rfl
theorem rcells_one : ∀ (rs : List (Int × Int)), ∀ v ∈ rcells rs, v.oneCell' = true
  | [], v, hv => by cases hv
  | x :: r, v, hv => by
    simp only [rcells, List.mem_cons] at hv
    rcases hv with rfl | rfl | hv
    · rfl
    · rfl
    · exact rcells_one r v hv
theorem rcells_drop (rs : List (Int × Int)) (k : Nat) (hk : k ≤ rs.length) : rcells (rs.drop k) = (rcells rs).drop (k * 2) := by
  have h3 : rcells rs = rcells (rs.take k) ++ rcells (rs.drop k) := by rw [← rcells_append, List.take_append_drop]
  rw [h3, List.drop_left' (by rw [rcells_length, List.length_take]; omega)]

/-- 'copy(list, list[head:])' on the entries. -/
theorem copy_self {B : Nat} {w : World} {e r g : Nat} {held of_ ol : Int} {n cap hd : Nat} {rs : List (Int × Int)} (h : EntY B w e r held of_ ol (some ⟨g, 0, none⟩) n cap hd rs) (m c2 : Nat) (sp : Option Addr) (hd' : hd ≤ n) (hm : n - hd = m)
    (hsp : 0 < m → sp = some ⟨g, hd * 2, none⟩) (ty : TypeId) :
    ∃ w', (Builtin.copy_ #[49, 49] ty #[.slice (some ⟨g, 0, none⟩) n cap, .slice sp m c2]).run Try.prog w = .ok (.int .i64 m) w' ∧ EntY B w' e r held of_ ol (some ⟨g, 0, none⟩) n cap hd (rs.drop hd ++ rs.drop m) ∧ Below B w w' := by
  have hlen := h.len
  by_cases h0 : m = 0
  · subst h0
    have hdn : hd = n := by omega
    refine ⟨w, run_copy_none2 (P := Try.prog) w 49 49 ty 45 _ _ n cap 0 c2 Try.underlying49 size45 (Nat.zero_min _), ?_, Below.refl _ _⟩
    rw [List.drop_eq_nil_of_le (by omega), List.nil_append, List.drop_zero]
    exact h
  · obtain rfl := hsp (by omega)
    rcases h.own.2 with ⟨h1, _⟩ | ⟨g', cap', cur, hv, hg, hh, h4, h5, h6, h7⟩
    · injection h1 with h1; cases h1
    injection hv with hv1 _ hv3
    injection hv1 with hv1
    injection hv1 with hv1
    subst hv1 hv3
    have hcl : (rcells (rs.drop hd)).length = m * 2 := by rw [rcells_length, List.length_drop]; omega
    have hcur : cur.toList.length = cap * 2 := by simpa using h6
    have hrun := run_copy_row2 (P := Try.prog) w 49 49 ty 45 g 0 n cap ⟨g, hd * 2, none⟩ m c2 cur 45 (rcells (rs.drop hd)) Try.underlying49 size45 hh m (Nat.min_eq_left (by omega)).symm hcl
      (fun j v hj => by
        have hjl := (List.getElem?_eq_some_iff.1 hj).1
        rw [add_lit, cell_of_heap hh]
        rw [rcells_drop _ _ (by omega), List.getElem?_drop, ← h7, List.getElem?_take, if_pos (by omega)] at hj
        simpa using hj) (by rw [hcl]; omega) (rcells_one _)
    refine ⟨_, hrun, ?_, below_setRow (Below.refl _ _) hg _⟩
    have hne1 : e ≠ g := ne_of_types h.he hh (by decide)
    have hne2 : r ≠ g := ne_of_types h.hr hh (by decide)
    refine ⟨h.be, h.br, h.ne, by rw [setRow_other _ _ _ _ hne1]; exact h.he, by rw [setRow_other _ _ _ _ hne2]; exact h.hr, ?_, .inr ⟨g, cap, _, rfl, hg, setRow_heap w g cur _ 45 _ hh, h4, h5, ?_, ?_⟩⟩
    · rw [rcells_append, List.length_append, rcells_length, rcells_length, List.length_drop, List.length_drop]; omega
    · simp only [List.size_toArray, List.length_append, List.length_take, List.length_drop, hcl, hcur]; omega
    · simp only [List.take_zero, List.nil_append, Nat.zero_add]
      rw [List.take_append, hcl, List.take_of_length_le (by omega), rcells_append, rcells_drop rs m (by omega), ← h7]
      congr 1
      rw [List.drop_take]

theorem step_copy_self {ops : Array Oper} {o : Oper} {act : Act} {w : World} {K : Act → World → Prop} {Q : Exit → Act → World → Prop} {E : Prop} (hgd : o.guard = none) (d s : Operand)
    (ho : o.op = .call { callee := .builtin .copy, args := #[d, s], argTypes := #[49, 49] }) {B e r g : Nat} {held of_ ol : Int} {n cap hd : Nat} {rs : List (Int × Int)} (h : EntY B w e r held of_ ol (some ⟨g, 0, none⟩) n cap hd rs) (m c2 : Nat) (sp : Option Addr)
    (hde : act.eval d = .slice (some ⟨g, 0, none⟩) n cap) (hse : act.eval s = .slice sp m c2) (hd' : hd ≤ n) (hm : n - hd = m) (hsp : 0 < m → sp = some ⟨g, hd * 2, none⟩)
    (hk : ∀ w', Hid (EntY B w' e r held of_ ol (some ⟨g, 0, none⟩) n cap hd (rs.drop hd ++ rs.drop m)) → Hid (Below B w w') → w'.cell? ⟨r, 0, none⟩ = some (.slice (some ⟨g, 0, none⟩) n cap) → w'.cell? ⟨r, 1, none⟩ = some (.int .i64 hd) → w'.frozen? ⟨r, 0, none⟩ = false → w'.frozen? ⟨r, 1, none⟩ = false → K (act.put o.dst (.int .i64 m)) w') :
    if Region.wanted o (yielded ops act.tmps) = true then Oper.wp Try.prog o act w K Q else E := by
  have hw : Region.wanted o (yielded ops act.tmps) = true := by simp [Region.wanted, hgd]
  rw [if_pos hw]
  obtain ⟨w', hrun, h1, h2⟩ := copy_self h m c2 sp hd' hm hsp o.type
  have hfin := hk w' h1 h2 (by rw [cell_of_heap h1.hr]; rfl) (by rw [cell_of_heap h1.hr]; rfl) (frozen_of_heap h1.hr 0) (frozen_of_heap h1.hr 1)
  unfold Oper.wp
  simp [execOp, ho, resolve, invoke, builtin, hde, hse, hrun, Result.andThen]
  exact hfin
end Go.Proofs.Qxb6618191a
