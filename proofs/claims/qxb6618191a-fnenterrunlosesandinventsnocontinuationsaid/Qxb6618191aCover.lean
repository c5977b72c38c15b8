/-
  coverOf (function 21).
-/
import Derived.Test.Qxb6618191aPlain4
namespace Go.Proofs.Qxb6618191a
open Go.RowKit

/-- The ends of a cover stay within these bounds. -/
def Lim (out : List (Int × Int)) : Prop := ∀ x ∈ out, 0 ≤ x.2 ∧ x.2 ≤ 9223372036854775805
theorem lim_nil : Lim [] := fun x hx => (by cases hx)
theorem lim_push {out : List (Int × Int)} {f l : Int} (h : Lim out) (h0 : 0 ≤ l) (h1 : l ≤ 9223372036854775805) : Lim (pushC out f l) := by
  by_cases hn : out.length = 0
  · obtain rfl := List.eq_nil_of_length_eq_zero hn
    intro x hx
    rw [pushC_nil, List.mem_singleton] at hx
    subst hx
    exact ⟨h0, h1⟩
  · obtain ⟨I, a, b, rfl, _⟩ := snoc_of rfl (show 0 < out.length by omega)
    have hb := h (a, b) (by simp)
    intro x hx
    rw [pushC_snoc] at hx
    split at hx
    · rcases List.mem_append.1 hx with hx | hx
      · exact h x (List.mem_append_left _ hx)
      · rw [List.mem_singleton] at hx
        subst hx
        dsimp only at hb ⊢
        split <;> omega
    · rcases List.mem_append.1 hx with hx | hx
      · exact h x hx
      · rw [List.mem_singleton] at hx
        subst hx
        exact ⟨h0, h1⟩
theorem lim_last {out : List (Int × Int)} {n : Nat} (h : Lim out) (hn : out.length = n) (h0 : 0 < n) : -9223372036854775808 ≤ ls out (n - 1) ∧ ls out (n - 1) ≤ 9223372036854775806 := by
  have hx := run_at hn (show n - 1 < n by omega)
  have := h _ (List.mem_of_getElem? hx)
  dsimp only at this
  omega
theorem push_len (out : List (Int × Int)) (f l : Int) : (pushC out f l).length ≤ out.length + 1 := by
  by_cases hn : out.length = 0
  · obtain rfl := List.eq_nil_of_length_eq_zero hn
    simp [pushC_nil]
  · obtain ⟨I, a, b, rfl, _⟩ := snoc_of rfl (show 0 < out.length by omega)
    rw [pushC_snoc]
    split <;> simp

theorem covR_step {span : Int} {rs : List (Int × Int)} {n k : Nat} (hn : rs.length = n) (hk : k < n) : covR span (rs.take (k + 1)) = pushC (covR span (rs.take k)) (fs rs k) (ls rs k + span - 1) := by
  obtain ⟨h3, h4⟩ := List.getElem?_eq_some_iff.1 (run_at hn hk)
  unfold covR
  rw [List.take_succ_eq_append_getElem h3, h4, List.foldl_append]
  rfl
theorem covX_step {span : Int} {out : List (Int × Int)} {xs : List Int} {n k : Nat} (hn : xs.length = n) (hk : k < n) : covX span out (xs.take (k + 1)) = pushC (covX span out (xs.take k)) (xs[k]?.getD 0) (xs[k]?.getD 0 + span - 1) := by
  have h3 : k < xs.length := by omega
  unfold covX
  rw [List.take_succ_eq_append_getElem h3, List.foldl_append, List.getElem?_eq_getElem h3]
  rfl

/-- Positions within the law's bound. -/
def PosR (rs : List (Int × Int)) : Prop := ∀ x ∈ rs, 0 ≤ x.2 ∧ x.2 ≤ 4611686018427387903
def PosX (xs : List Int) : Prop := ∀ x ∈ xs, 0 ≤ x ∧ x ≤ 4611686018427387903
theorem posR_at {rs : List (Int × Int)} {n k : Nat} (h : PosR rs) (hn : rs.length = n) (hk : k < n) : 0 ≤ ls rs k ∧ ls rs k ≤ 4611686018427387903 := h _ (List.mem_of_getElem? (run_at hn hk))
theorem posX_at {xs : List Int} {n k : Nat} (h : PosX xs) (hn : xs.length = n) (hk : k < n) : 0 ≤ xs[k]?.getD 0 ∧ xs[k]?.getD 0 ≤ 4611686018427387903 := by
  have h3 : k < xs.length := by omega
  rw [List.getElem?_eq_getElem h3]
  exact h _ (List.getElem_mem h3)

/-- How it stands within coverOf. -/
structure CovI (w wr : World) (a : Option Addr) (m c : Nat) (out : List (Int × Int)) : Prop where
  own : wr.ownsRow w.heap.size 35 2 (.slice a m c) m (rcells out)
  len : out.length = m
  lim : Lim out
  below : Below w.heap.size w wr

theorem CovI.call {w wr : World} {a : Option Addr} {m c : Nat} {out : List (Int × Int)} (h : CovI w wr a m c out) (hm : m ≤ 500000) (f l : Int) (h0 : 0 ≤ l) (h1 : l ≤ 9223372036854775805) :
    Calls Try.prog 25 #[.slice a m c, .int .i64 f, .int .i64 l] wr.drew fun e w' => ∃ a' m' c', e = .returned (.slice a' m' c') ∧ m' ≤ m + 1 ∧ CovI w w' a' m' c' (pushC out f l) := by
  refine (push_any a m c w.heap.size f l out wr.drew h.len (by omega) h.below.size h.own (lim_last h.lim h.len)).mono ?_
  rintro e w' ⟨a', m', c', rfl, hm', ho, hb⟩
  exact ⟨a', m', c', rfl, by have := push_len out f l; have := h.len; omega, ho, hm'.symm, lim_push h.lim h0 h1, h.below.drew.trans hb⟩

/-- The call of pushCover as one step of a region that draws its order. -/
theorem step_push {ops : Array Oper} {o : Oper} {act : Act} {wz : World} {K : Act → World → Prop} {Q : Exit → Act → World → Prop} {E : Prop} (hgd : o.guard = none) (s f l : Operand)
    (ho : o.op = .call { callee := .value (.func 25), args := #[s, f, l], argTypes := #[25, 3, 3] }) {w : World} {a : Option Addr} {m c : Nat} {x y : Int} {out : List (Int × Int)} (hs : act.eval s = .slice a m c) (hf : act.eval f = .int .i64 x) (hl : act.eval l = .int .i64 y)
    (HC : Calls Try.prog 25 #[.slice a m c, .int .i64 x, .int .i64 y] wz fun e w' => ∃ a' m' c', e = .returned (.slice a' m' c') ∧ m' ≤ m + 1 ∧ CovI w w' a' m' c' out)
    (hk : ∀ a' m' c' w', m' ≤ m + 1 → Hid (CovI w w' a' m' c' out) → K (act.put o.dst (.slice a' m' c')) w') :
    if Region.wanted o (yielded ops act.tmps) = true then Oper.wp Try.prog o act wz K Q else E := by
  have hw : Region.wanted o (yielded ops act.tmps) = true := by simp [Region.wanted, hgd]
  rw [if_pos hw]
  have hfn : act.eval (.func 25) = .func (Fn.func 25) #[] #[] := rfl
  unfold Oper.wp
  simp [execOp, ho, resolve, invoke, hs, hf, hl, hfn, Deferred.ofValue]
  rw [Oper.upon_enter]
  refine HC.mono ?_
  rintro e w' ⟨a', m', c', rfl, h1, h2⟩
  exact hk a' m' c' w' h1 h2
/-- The sum as the machine makes it. -/
theorem wr_sum {x span : Int} (h0 : 0 ≤ x) (h1 : x ≤ 4611686018427387903) (h2 : 1 ≤ span) (h3 : span ≤ 4611686018427387903) : IntKind.i64.wrap (IntKind.i64.wrap (x + span) - 1) = x + span - 1 := by
  simp only [IntKind.wrap_i64]
  omega

set_option maxHeartbeats 16000000 in
theorem cover_any (a b : Option Addr) (n m ca cb B1 : Nat) (span : Int) (rs : List (Int × Int)) (xs : List Int) (w : World) (hn : rs.length = n) (hm : xs.length = m) (hn6 : n ≤ 200000) (hm6 : m ≤ 200000)
    (ho : w.ownsRow B1 35 2 (.slice a n ca) n (rcells rs)) (hr : Row w b xs) (hp : PosR rs) (hx : PosX xs) (hs1 : 1 ≤ span) (hs2 : span ≤ 4611686018427387903) :
    Calls Try.prog 21 #[.slice a n ca, .int .i64 span, .slice b m cb] w fun e w' => ∃ a' k cap, e = .returned (.slice a' k cap) ∧ k = (covX span (covR span rs) xs).length ∧ k ≤ n + m ∧
      w'.ownsRow w.heap.size 35 2 (.slice a' k cap) k (rcells (covX span (covR span rs) xs)) ∧ Below w.heap.size w w' := by
  have HF : Hid (rs.length = n ∧ w.ownsRow B1 35 2 (.slice a n ca) n (rcells rs) ∧ PosR rs) := ⟨hn, ho, hp⟩
  have HX : Hid (xs.length = m ∧ Row w b xs ∧ PosX xs) := ⟨hm, hr, hx⟩
  clear hn ho hp hm hr hx
  have hadd : (n : Int) + (m : Int) = ((n + m : Nat) : Int) := by omega
  obtain ⟨c, hc⟩ : ∃ c, n + m = c := ⟨_, rfl⟩
  rw [hc] at hadd
  have hmk : ∀ w : World, (Instr.makeSlice 25 (.int .i64 0) (.int .i64 (c : Int))).run Try.prog w = .ok (.slice (some ⟨w.heap.size, 0, none⟩) 0 c) (w.alloc (.cells (madeCells #[.int .i64 0, .int .i64 0] (c * 2)) 35)) := fun w => made_runs ty25 0 c w (by omega) (by omega)
  have HO1 : Hid (CovI w (w.alloc (.cells (madeCells #[.int .i64 0, .int .i64 0] (c * 2)) 35)) (some ⟨w.heap.size, 0, none⟩) 0 c []) := ⟨owns_made w 35 c _ (Nat.le_refl _) (by omega), rfl, lim_nil, (Below.refl _ _).alloc (Nat.le_refl _) _⟩
  clear hc
  go_enter Try.func21, Try.ntmps21
  go_wp2
  go_loopw [7, 8] (fun o i wr => ∃ (k : Nat) (a1 : Option Addr) (m1 c1 : Nat), k ≤ n ∧ i = .int .i64 k ∧ o = .slice a1 m1 c1 ∧ m1 ≤ k ∧ Hid (CovI w wr a1 m1 c1 (covR span (rs.take k)))) (fun _ i _ => n - (intOf i).toNat)
  case atStart => exact ⟨0, _, 0, c, by omega, rfl, rfl, by omega, HO1⟩
  case round =>
    obtain ⟨k, a2, m2, c2, hk1, rfl, rfl, hmk1, HO⟩ := hrel
    clear HO1 hmk hadd
    by_cases hlt : k < n
    · obtain ⟨g, rfl, _, hgs, hcl, _⟩ := owns_at HF.out.2.1 (by omega)
      obtain ⟨c0, c1⟩ := run_cell HF.out.1 hcl hlt
      have hps := posR_at HF.out.2.2 HF.out.1 hlt
      have b0 : (k : Int) < (n : Int) := by omega
      have q0 : wr.cell? ⟨g, k * 2, none⟩ = some (.int .i64 (fs rs k)) := by rw [HO.out.below.cell (p := ⟨g, k * 2, none⟩) hgs]; exact c0
      have q1 : wr.cell? ⟨g, k * 2 + 1, none⟩ = some (.int .i64 (ls rs k)) := by rw [HO.out.below.cell (p := ⟨g, k * 2 + 1, none⟩) hgs]; exact c1
      have HC : Hid (Calls Try.prog 25 #[.slice a2 m2 c2, .int .i64 (fs rs k), .int .i64 (IntKind.i64.wrap (IntKind.i64.wrap (ls rs k + span) - 1))] wr.drew fun e w' => ∃ a' m' c', e = .returned (.slice a' m' c') ∧ m' ≤ m2 + 1 ∧ CovI w w' a' m' c' (covR span (rs.take (k + 1)))) := by
        have := HO.out.call (by omega) (fs rs k) (ls rs k + span - 1) (by omega) (by omega)
        rw [← covR_step HF.out.1 hlt, ← wr_sum hps.1 hps.2 hs1 hs2] at this
        exact this
      obtain ⟨hps1, hps2⟩ := hps
      clear hcl c0 c1
      go_wp2
      go_region_law ((refine step_push (by rfl) _ _ _ (by rfl) (by rfl) (by rfl) (by rfl) HC.out ?_; intro a' m' c' w4 hm' HV))
      all_goals
        clear HC
        go_wp2
        go_roundw
        case rel => exact ⟨k + 1, a', m', c', by omega, by go_num, rfl, by omega, HV⟩
        case measure => simp [intOf]; omega
    · have hk : k = n := by omega
      subst hk
      have HV : Hid (CovI w wr a2 m2 c2 (covR span rs)) := by
        have := HO.out
        rw [List.take_of_length_le (by have := HF.out.1; omega)] at this
        exact this
      clear HO
      generalize wr = w1 at *
      go_wp2
      go_loopw [7, 9] (fun o i wr => ∃ (j : Nat) (a1 : Option Addr) (m1 c1 : Nat), j ≤ m ∧ i = .int .i64 j ∧ o = .slice a1 m1 c1 ∧ m1 ≤ k + j ∧ Hid (CovI w wr a1 m1 c1 (covX span (covR span rs) (xs.take j)))) (fun _ i _ => m - (intOf i).toNat)
      case atStart => exact ⟨0, a2, m2, c2, by omega, rfl, rfl, by omega, HV⟩
      case round =>
        obtain ⟨j, a3, m3, c3, hj1, rfl, rfl, hmj, HO⟩ := hrel
        clear HV
        by_cases hltj : j < m
        · obtain ⟨b2, o2, rfl, e2⟩ := HX.out.2.1.at HX.out.1 hltj
          have hps := posX_at HX.out.2.2 HX.out.1 hltj
          have b0 : (j : Int) < (m : Int) := by omega
          have q0 : wr.cell? ⟨b2, o2 + j, none⟩ = some (.int .i64 (xs[j]?.getD 0)) := by rw [HO.out.below.cell (p := ⟨b2, o2 + j, none⟩) (lt_of_cell e2)]; exact e2
          have HC : Hid (Calls Try.prog 25 #[.slice a3 m3 c3, .int .i64 (xs[j]?.getD 0), .int .i64 (IntKind.i64.wrap (IntKind.i64.wrap (xs[j]?.getD 0 + span) - 1))] wr.drew fun e w' => ∃ a' m' c', e = .returned (.slice a' m' c') ∧ m' ≤ m3 + 1 ∧ CovI w w' a' m' c' (covX span (covR span rs) (xs.take (j + 1)))) := by
            have := HO.out.call (by omega) (xs[j]?.getD 0) (xs[j]?.getD 0 + span - 1) (by omega) (by omega)
            rw [← covX_step HX.out.1 hltj, ← wr_sum hps.1 hps.2 hs1 hs2] at this
            exact this
          obtain ⟨hps1, hps2⟩ := hps
          obtain ⟨xj, hxj⟩ : ∃ z, xs[j]?.getD 0 = z := ⟨_, rfl⟩
          rw [hxj] at q0 HC hps1 hps2
          clear e2 hxj
          go_wp2
          go_region_law ((refine step_push (by rfl) _ _ _ (by rfl) (by rfl) (by rfl) (by rfl) HC.out ?_; intro a' m' c' w4 hm' HV))
          all_goals
            clear HC
            go_wp2
            go_roundw
            case rel => exact ⟨j + 1, a', m', c', by omega, by go_num, rfl, by omega, HV⟩
            case measure => simp [intOf]; omega
        · have hj : j = m := by omega
          subst hj
          have HV : Hid (CovI w wr a3 m3 c3 (covX span (covR span rs) xs)) := by
            have := HO.out
            rw [List.take_of_length_le (by have := HX.out.1; omega)] at this
            exact this
          go_wp2
          go_ret
          exact ⟨a3, m3, c3, rfl, HV.out.len.symm, hmj, HV.out.own, HV.out.below⟩
end Go.Proofs.Qxb6618191a
