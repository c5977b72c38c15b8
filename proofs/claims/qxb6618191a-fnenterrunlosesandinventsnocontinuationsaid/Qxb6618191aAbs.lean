/-
  append and make over runs; abstractRuns (function 8).
-/
import Derived.Test.Qxb6618191aShape
namespace Go.Proofs.Qxb6618191a
open Go.RowKit

/-- t is a slice type of a type e of two ints. -/
structure RunTy (t e : TypeId) : Prop where
  sl : Try.prog.underlying t = some (.slice e)
  info : (Try.prog.info? e).map (fun i => (i.zero, i.size, i.bytes)) = some (some (.agg #[.int .i64 0, .int .i64 0]), 2, 16)

theorem ty25 : RunTy 25 35 := ⟨Try.underlying25, by kernel_rfl⟩
theorem ty49 : RunTy 49 45 := ⟨Try.underlying49, by kernel_rfl⟩

theorem wp_append_run {o : Oper} {a : Act} {K : Act → World → Prop} {Q : Exit → Act → World → Prop} (w : World) (s x : Operand) {t e : TypeId} (ht : RunTy t e)
    (ho : o.op = .call { callee := .builtin .append, args := #[s, x], argTypes := #[t, t] }) (base : Nat) (v : Value) (n : Nat) (rs : List (Int × Int)) (hs : a.eval s = v) (nb : Nat) (x1 x2 : Int) (hx : a.eval x = .slice (some ⟨nb, 0, none⟩) 1 1)
    (hown : w.ownsRow base e 2 v n (rcells rs)) (hnb : w.heap[nb]? = some (.cells #[.int .i64 x1, .int .i64 x2] e (0, 0))) (hn : n ≤ 1000000) (hbase : base ≤ w.heap.size)
    (h : ∀ v' w', Hid (w'.ownsRow base e 2 v' (n + 1) (rcells (rs ++ [(x1, x2)]))) → Hid (w.grownBy w' v.ownBlock) → K (a.put o.dst v') w') : o.wp Try.prog a w K Q := by
  obtain ⟨i, hi, hzz⟩ := Option.map_eq_some_iff.1 ht.info
  simp only [Prod.mk.injEq] at hzz
  obtain ⟨hz, hs2, hb2⟩ := hzz
  refine wp_append_own w s x t ho base e i _ 2 16 ht.sl hi hz hs2 hb2 rfl (by omega) v n (rcells rs) hs hown ⟨nb, 0, none⟩ 1 1 [.int .i64 x1, .int .i64 x2] hx rfl ?_ ?_ ?_ ?_ hbase ?_
  · intro j u hj
    rw [add_lit, Nat.zero_add, cell_of_heap hnb]
    simpa using hj
  · intro u hu
    simp at hu
    rcases hu with rfl | rfl <;> rfl
  · unfold maxLen; omega
  · omega
  · intro v' w' h1 h2 _
    refine h v' w' ?_ h2
    show w'.ownsRow base e 2 v' (n + 1) (rcells (rs ++ [(x1, x2)]))
    rw [rcells_append]
    exact h1

theorem wpList_append_run {ops : Array Oper} {rest : List Oper} {o : Oper} {a : Act} {Q : Exit → Act → World → Prop} (w : World) (hgd : o.guard = none) (s x : Operand) {t e : TypeId} (ht : RunTy t e)
    (ho : o.op = .call { callee := .builtin .append, args := #[s, x], argTypes := #[t, t] }) (base : Nat) (v : Value) (n : Nat) (rs : List (Int × Int)) (hs : a.eval s = v) (nb : Nat) (x1 x2 : Int) (hx : a.eval x = .slice (some ⟨nb, 0, none⟩) 1 1)
    (hown : w.ownsRow base e 2 v n (rcells rs)) (hnb : w.heap[nb]? = some (.cells #[.int .i64 x1, .int .i64 x2] e (0, 0))) (hn : n ≤ 1000000) (hbase : base ≤ w.heap.size)
    (h : ∀ v' w', Hid (w'.ownsRow base e 2 v' (n + 1) (rcells (rs ++ [(x1, x2)]))) → Hid (w.grownBy w' v.ownBlock) → wpList Try.prog ops Q rest (a.put o.dst v') w') : wpList Try.prog ops Q (o :: rest) a w :=
  wpList_plain hgd fun _ hK => wp_append_run w s x ht ho base v n rs hs nb x1 x2 hx hown hnb hn hbase fun v' w' h1 h2 => hK _ _ (h v' w' h1 h2)

theorem step_append_run {ops : Array Oper} {o : Oper} {a : Act} {w : World} {K : Act → World → Prop} {Q : Exit → Act → World → Prop} {E : Prop} (hgd : o.guard = none) (s x : Operand) {t e : TypeId} (ht : RunTy t e)
    (ho : o.op = .call { callee := .builtin .append, args := #[s, x], argTypes := #[t, t] }) (base : Nat) (v : Value) (n : Nat) (rs : List (Int × Int)) (hs : a.eval s = v) (nb : Nat) (x1 x2 : Int) (hx : a.eval x = .slice (some ⟨nb, 0, none⟩) 1 1)
    (hown : w.ownsRow base e 2 v n (rcells rs)) (hnb : w.heap[nb]? = some (.cells #[.int .i64 x1, .int .i64 x2] e (0, 0))) (hn : n ≤ 1000000) (hbase : base ≤ w.heap.size)
    (h : ∀ v' w', Hid (w'.ownsRow base e 2 v' (n + 1) (rcells (rs ++ [(x1, x2)]))) → Hid (w.grownBy w' v.ownBlock) → K (a.put o.dst v') w') :
    if Region.wanted o (yielded ops a.tmps) = true then Oper.wp Try.prog o a w K Q else E := by
  have hw : Region.wanted o (yielded ops a.tmps) = true := by simp [Region.wanted, hgd]
  rw [if_pos hw]
  exact wp_append_run w s x ht ho base v n rs hs nb x1 x2 hx hown hnb hn hbase h

theorem made_runs {t e : TypeId} (ht : RunTy t e) (l c : Nat) (w : World) (hlc : l ≤ c) (hc : c ≤ 1000000) : (Instr.makeSlice t (.int .i64 l) (.int .i64 c)).run Try.prog w = .ok (.slice (some ⟨w.heap.size, 0, none⟩) l c) (w.alloc (.cells (madeCells #[.int .i64 0, .int .i64 0] (c * 2)) e)) := by
  obtain ⟨i, hi, hzz⟩ := Option.map_eq_some_iff.1 ht.info
  simp only [Prod.mk.injEq] at hzz
  obtain ⟨hz, hs, hb⟩ := hzz
  have hr := run_make (P := Try.prog) w t e i _ ht.sl hi hz .i64 .i64 l c (by omega) (by omega) (by rw [hb]; omega) (by omega)
  simp only [Int.toNat_natCast, hs] at hr
  exact hr

theorem owns_made (w : World) (e : TypeId) (c base : Nat) (hb : base ≤ w.heap.size) (hc : c ≤ 1000000) :
    (w.alloc (.cells (madeCells #[.int .i64 0, .int .i64 0] (c * 2)) e)).ownsRow base e 2 (.slice (some ⟨w.heap.size, 0, none⟩) 0 c) 0 (rcells []) := by
  have := World.ownsRow_made (base := base) (e := e) (size := 2) w (madeCells #[.int .i64 0, .int .i64 0] (c * 2)) c hb (by unfold maxLen; omega) (by rw [size_madeCells])
  simpa [rcells] using this

theorem new_two (w : World) (o1 o2 : Obj) : ((w.alloc o1).alloc o2).heap[w.heap.size + 1]? = some o2 := by
  have := heap_alloc_new (w.alloc o1) o2
  rwa [World.size_alloc] at this

theorem size_two (w : World) (o1 o2 : Obj) : w.heap.size ≤ ((w.alloc o1).alloc o2).heap.size := by simp; omega

/-- What abstractRuns gathers. -/
def absR (held of_ ol : Int) (F L : List Int) (hd : Nat) : List (Int × Int) := if held = 0 then [] else (of_, ol) :: (F.zip L).drop hd
theorem zip_at {F L : List Int} {n i : Nat} (hF : F.length = n) (hL : L.length = n) (hi : i < n) : (F.zip L)[i]? = some (F[i]?.getD 0, L[i]?.getD 0) := by
  have h1 : i < F.length := by omega
  have h2 : i < L.length := by omega
  simp [List.getElem?_zip_eq_some, h1, h2]
theorem drop_take_succ {α : Type} {l : List α} {hd k : Nat} {x : α} (h : l[k]? = some x) (hk : hd ≤ k) : (l.drop hd).take (k + 1 - hd) = (l.drop hd).take (k - hd) ++ [x] := by
  have h2 : (l.drop hd)[k - hd]? = some x := by rw [List.getElem?_drop, show hd + (k - hd) = k by omega]; exact h
  obtain ⟨h3, h4⟩ := List.getElem?_eq_some_iff.1 h2
  rw [show k + 1 - hd = k - hd + 1 by omega, List.take_succ_eq_append_getElem h3, h4]

set_option maxHeartbeats 1000000 in
theorem abs_any (held of_ ol : Int) (aF aL : Option Addr) (n cF cL hd : Nat) (F L : List Int) (w : World) (hF : F.length = n) (hL : L.length = n) (hn : n ≤ 200000) (hhd : hd ≤ n) (rF : Row w aF F) (rL : Row w aL L) :
    Calls Try.prog 8 #[.int .i64 held, .int .i64 of_, .int .i64 ol, .slice aF n cF, .slice aL n cL, .int .i64 hd] w fun e w' => ∃ a m cap, e = .returned (.slice a m cap) ∧ m = (absR held of_ ol F L hd).length ∧
      w'.ownsRow w.heap.size 35 2 (.slice a m cap) m (rcells (absR held of_ ol F L hd)) ∧ Below w.heap.size w w' := by
  have HF : Hid (F.length = n ∧ L.length = n ∧ Row w aF F ∧ Row w aL L) := ⟨hF, hL, rF, rL⟩
  clear hF hL rF rL
  by_cases h0 : held = 0
  · have HA : Hid (absR held of_ ol F L hd = []) := by show absR held of_ ol F L hd = []; rw [absR, if_pos h0]
    have hb : (held == 0) = true := beq_iff_eq.2 h0
    clear h0
    go_enter Try.func8, Try.ntmps8
    go_wp2
    go_ret
    rw [HA.out]
    exact ⟨none, 0, 0, rfl, rfl, World.ownsRow_nil _ _ _ _, Below.refl _ _⟩
  · have HA : Hid (absR held of_ ol F L hd = (of_, ol) :: (F.zip L).drop hd) := by show absR held of_ ol F L hd = _; rw [absR, if_neg h0]
    have hb : (held == 0) = false := beq_eq_false_iff_ne.2 h0
    have hcap : (1 : Int) + (n : Int) - (hd : Int) = ((1 + n - hd : Nat) : Int) := by omega
    obtain ⟨c, hc⟩ : ∃ c, 1 + n - hd = c := ⟨_, rfl⟩
    rw [hc] at hcap
    have hmk : ∀ w : World, (Instr.makeSlice 25 (.int .i64 0) (.int .i64 (c : Int))).run Try.prog w = .ok (.slice (some ⟨w.heap.size, 0, none⟩) 0 c) (w.alloc (.cells (madeCells #[.int .i64 0, .int .i64 0] (c * 2)) 35)) := fun w => made_runs ty25 0 c w (by omega) (by omega)
    have HC : Hid (1 + n - hd = c) := hc
    have HO1 : Hid ((w.alloc (.cells (madeCells #[.int .i64 0, .int .i64 0] (c * 2)) 35)).ownsRow w.heap.size 35 2 (.slice (some ⟨w.heap.size, 0, none⟩) 0 c) 0 (rcells [])) := owns_made w 35 c _ (Nat.le_refl _) (by omega)
    clear hc
    clear h0
    go_enter Try.func8, Try.ntmps8
    go_wp2_with (at_builtin; refine wpList_append_run _ (by rfl) _ _ ty25 (by rfl) w.heap.size (.slice (some ⟨w.heap.size, 0, none⟩) 0 c) 0 [] (by rfl) (w.heap.size + 1) of_ ol (by rfl) (HO1.out.alloc _) (new_two _ _ _) (by omega) (size_two _ _ _) ?_)
    intro v1 w1 H1 G1
    obtain ⟨a1, c1, hv1⟩ := owns_slice H1.out
    subst hv1
    have HB1 : Hid (Below w.heap.size w w1) := (((Below.refl _ _).alloc (Nat.le_refl _) _).alloc (by simp) _).grown G1.out (size_two _ _ _) (fun k hk => by simp [Value.ownBlock] at hk; omega)
    clear hmk hcap HO1 G1
    go_wp2
    go_loopw [13, 14] (fun o i wr => ∃ (k : Nat) (a1 : Option Addr) (c1 : Nat), hd ≤ k ∧ k ≤ n ∧ i = .int .i64 k ∧ o = .slice a1 (k - hd + 1) c1 ∧ Hid (wr.ownsRow w.heap.size 35 2 (.slice a1 (k - hd + 1) c1) (k - hd + 1) (rcells ((of_, ol) :: ((F.zip L).drop hd).take (k - hd)))) ∧ Hid (Below w.heap.size w wr)) (fun _ i _ => n - (intOf i).toNat)
    case atStart => exact ⟨hd, a1, c1, by omega, by omega, rfl, by rw [Nat.sub_self], by rw [Nat.sub_self]; exact H1, HB1⟩
    case round =>
      obtain ⟨k, a2, c2, hk1, hk2, rfl, rfl, HO, HB⟩ := hrel
      clear H1 HB1
      by_cases hlt : k < n
      · obtain ⟨b1, o1, rfl, e1⟩ := HF.out.2.2.1.at HF.out.1 hlt
        obtain ⟨b2, o2, rfl, e2⟩ := HF.out.2.2.2.at HF.out.2.1 hlt
        have q1 : wr.cell? ⟨b1, o1 + k, none⟩ = some (.int .i64 (F[k]?.getD 0)) := by rw [HB.out.cell (p := ⟨b1, o1 + k, none⟩) (lt_of_cell e1)]; exact e1
        have q2 : wr.cell? ⟨b2, o2 + k, none⟩ = some (.int .i64 (L[k]?.getD 0)) := by rw [HB.out.cell (p := ⟨b2, o2 + k, none⟩) (lt_of_cell e2)]; exact e2
        have b0 : (k : Int) < (n : Int) := by omega
        have hsz := HB.out.size
        have hkn : k - hd + 1 ≤ 1000000 := by omega
        have HOd : Hid ((wr.alloc (.cells #[.int .i64 (F[k]?.getD 0), .int .i64 (L[k]?.getD 0)] 35)).drew.ownsRow w.heap.size 35 2 (.slice a2 (k - hd + 1) c2) (k - hd + 1) (rcells ((of_, ol) :: ((F.zip L).drop hd).take (k - hd)))) := HO.out.alloc _
        have HNb : Hid ((wr.alloc (.cells #[.int .i64 (F[k]?.getD 0), .int .i64 (L[k]?.getD 0)] 35)).drew.heap[wr.heap.size]? = some (.cells #[.int .i64 (F[k]?.getD 0), .int .i64 (L[k]?.getD 0)] 35 (0, 0))) := heap_alloc_new _ _
        have HBz : Hid (w.heap.size ≤ (wr.alloc (.cells #[.int .i64 (F[k]?.getD 0), .int .i64 (L[k]?.getD 0)] 35)).drew.heap.size) := by show w.heap.size ≤ (wr.alloc _).heap.size; simp; omega
        clear e1 e2
        go_wp2
        go_region_law ((refine step_append_run (by rfl) _ _ ty25 (by rfl) w.heap.size (.slice a2 (k - hd + 1) c2) (k - hd + 1) _ (by rfl) wr.heap.size (F[k]?.getD 0) (L[k]?.getD 0) (by rfl) HOd.out HNb.out hkn HBz.out ?_; intro v2 w2 H2 G2))
        all_goals
          obtain ⟨a3, c3, hv3⟩ := owns_slice H2.out
          subst hv3
          have HB3 : Hid (Below w.heap.size w w2) := ((HB.out.alloc hsz _).drew).grown G2.out HBz.out (fun j hj => (HOd.out.lt j hj).1)
          have HO3 : Hid (w2.ownsRow w.heap.size 35 2 (.slice a3 (k + 1 - hd + 1) c3) (k + 1 - hd + 1) (rcells ((of_, ol) :: ((F.zip L).drop hd).take (k + 1 - hd)))) := by
            show w2.ownsRow _ _ _ _ _ _
            rw [drop_take_succ (zip_at HF.out.1 HF.out.2.1 hlt) hk1, show k + 1 - hd + 1 = k - hd + 1 + 1 by omega]
            exact H2.out
          clear H2 G2 HOd HNb HBz
          go_wp2
          go_roundw
          case rel => exact ⟨k + 1, a3, c3, by omega, by omega, by go_num, by rw [show k + 1 - hd + 1 = k - hd + 1 + 1 by omega], HO3, HB3⟩
          case measure => simp [intOf]; omega
      · have hk : k = n := by omega
        subst hk
        go_wp2
        go_ret
        rw [HA.out]
        have ht : ((F.zip L).drop hd).take (k - hd) = (F.zip L).drop hd := List.take_of_length_le (by have := HF.out.1; have := HF.out.2.1; simp [List.length_zip]; omega)
        have ho := HO.out
        rw [ht] at ho
        exact ⟨a2, _, c2, rfl, by have := HF.out.1; have := HF.out.2.1; simp [List.length_zip]; omega, ho, HB.out⟩
end Go.Proofs.Qxb6618191a
