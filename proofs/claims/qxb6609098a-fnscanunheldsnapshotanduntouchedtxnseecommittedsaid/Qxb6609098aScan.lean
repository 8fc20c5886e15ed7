/-
  slices.Clone at a row of SQL values; the closure of ZZscanRows.
-/
import Derived.Test.Qxb6609098aTable
import Derived.Lib.SliceRun
import Derived.Deep.RegionLaw
namespace Go.Proofs.Qxb6609098a
open Go.RowKit

/-- The cells of a row, as a list. -/
theorem ValRow.news {w : World} {g l : Nat} {z : Nat → Int} (hv : ValRow w g l z) : ∃ news : List Value, news.length = l * 3 ∧ (∀ j u, news[j]? = some u → w.cell? ((⟨g, 0, none⟩ : Addr).add j) = some u) ∧ (∀ u ∈ news, u.oneCell' = true) ∧
    ∀ j, j < l → news[j * 3]? = some (.int .u8 1) ∧ news[j * 3 + 1]? = some (.int .i64 (z j)) ∧ ∃ s, news[j * 3 + 2]? = some (.string s) := by
  obtain ⟨cur, hg, hc⟩ := hv
  have hsz : l * 3 ≤ cur.size := by
    rcases Nat.eq_zero_or_pos l with rfl | h
    · omega
    · obtain ⟨_, _, s, h3⟩ := hc (l - 1) (by omega)
      have := (Array.getElem?_eq_some_iff.1 h3).1
      omega
  have hget : ∀ q, q < l * 3 → (cur.toList.take (l * 3))[q]? = cur[q]? := fun q hq => by
    rw [List.getElem?_take_of_lt hq, Array.getElem?_toList]
  refine ⟨cur.toList.take (l * 3), by simp; omega, fun j u hj => ?_, fun u hu => ?_, fun j hj => ?_⟩
  · have hjl : j < l * 3 := by
      have := (List.getElem?_eq_some_iff.1 hj).1
      simp at this
      omega
    rw [hget j hjl] at hj
    rw [Go.WideShapes.add_plain, Nat.zero_add]
    simp [World.cell?, hg, hj]
  · obtain ⟨q, hq⟩ := List.getElem?_of_mem hu
    have hql : q < l * 3 := by
      have := (List.getElem?_eq_some_iff.1 hq).1
      simp at this
      omega
    rw [hget q hql] at hq
    obtain ⟨h1, h2, s, h3⟩ := hc (q / 3) (by omega)
    have hcase : q = q / 3 * 3 ∨ q = q / 3 * 3 + 1 ∨ q = q / 3 * 3 + 2 := by omega
    rcases hcase with e | e | e
    · rw [e, h1] at hq; simp at hq; subst hq; rfl
    · rw [e, h2] at hq; simp at hq; subst hq; rfl
    · rw [e, h3] at hq; simp at hq; subst hq; rfl
  · obtain ⟨h1, h2, s, h3⟩ := hc j hj
    exact ⟨by rw [hget _ (by omega), h1], by rw [hget _ (by omega), h2], s, by rw [hget _ (by omega), h3]⟩

/-- What is owned as a row of SQL values holds them. -/
theorem valRow_owned {w : World} {base l : Nat} {v : Value} {z : Nat → Int} {news : List Value} (hown : w.ownsRow base 33 3 v l news) (hne : v ≠ .slice none 0 0)
    (hc : ∀ j, j < l → news[j * 3]? = some (.int .u8 1) ∧ news[j * 3 + 1]? = some (.int .i64 (z j)) ∧ ∃ s, news[j * 3 + 2]? = some (.string s)) :
    ∃ g c, v = .slice (some ⟨g, 0, none⟩) l c ∧ ValRow w g l z := by
  rcases hown.2 with ⟨h, _⟩ | ⟨g, cap, cur, hv, _, hg, _, _, _, ht⟩
  · exact absurd h hne
  · refine ⟨g, cap, hv, cur, hg, fun j hj => ?_⟩
    have hget : ∀ q, q < l * 3 → news[q]? = cur[q]? := fun q hq => by
      rw [← ht, List.getElem?_take_of_lt hq, Array.getElem?_toList]
    obtain ⟨h1, h2, s, h3⟩ := hc j hj
    exact ⟨by rw [← hget _ (by omega), h1], by rw [← hget _ (by omega), h2], s, by rw [← hget _ (by omega), h3]⟩

set_option maxHeartbeats 1000000 in
theorem clone_any (g l cp : Nat) (z : Nat → Int) (w : World) (hv : ValRow w g l z) (hl : l ≤ 1048576) :
    Calls Try.prog 44 #[.slice (some ⟨g, 0, none⟩) l cp] w fun e w' => ∃ g' c', e = .returned (.slice (some ⟨g', 0, none⟩) l c') ∧ ValRow w' g' l z ∧ Below w.heap.size w w' := by
  have heq := fun w => Lib.run_eql_slice_nil (P := Try.prog) w 126 33 (some ⟨g, 0, none⟩) l cp 0 0 Try.underlying126
  simp only [Option.isNone_some] at heq
  obtain ⟨i0, hi, hz0, hz1, hz2⟩ := info_parts Try.info33
  have hb0 : Below w.heap.size w (w.alloc (.cells #[] 33)) := (Below.refl _ _).alloc (Nat.le_refl _) _
  obtain ⟨news, n1, n2, n3, n4⟩ := (hv.later hb0).news
  have hown0 : (w.alloc (.cells #[] 33)).ownsRow w.heap.size 33 3 (.slice (some ⟨w.heap.size, 0, none⟩) 0 0) 0 [] := World.ownsRow_made w #[] 0 (Nat.le_refl _) (Nat.zero_le _) rfl
  have HN : Hid (news.length = l * 3 ∧ (∀ j u, news[j]? = some u → (w.alloc (.cells #[] 33)).cell? ((⟨g, 0, none⟩ : Addr).add j) = some u) ∧ (∀ u ∈ news, u.oneCell' = true) ∧ ∀ j, j < l → news[j * 3]? = some (.int .u8 1) ∧ news[j * 3 + 1]? = some (.int .i64 (z j)) ∧ ∃ s, news[j * 3 + 2]? = some (.string s)) := ⟨n1, n2, n3, n4⟩
  have HO : Hid ((w.alloc (.cells #[] 33)).ownsRow w.heap.size 33 3 (.slice (some ⟨w.heap.size, 0, none⟩) 0 0) 0 []) := hown0
  clear n1 n2 n3 n4 hown0 hb0
  go_enter Try.func44, Try.ntmps44
  go_wp2_with (at_builtin; refine wpList_append_own _ rfl _ _ 126 rfl w.heap.size 33 i0 _ 3 32 Try.underlying126 hi hz0 hz1 hz2 rfl (by decide) _ 0 [] rfl HO.out ⟨g, 0, none⟩ l cp news rfl HN.out.1 HN.out.2.1 HN.out.2.2.1 (by unfold maxLen; omega) (by omega) (by simp) ?_; intro v' w1 hown1 hgrow1 hnil1)
  have hb1 : Below w.heap.size w w1 := ((Below.refl _ w).alloc (Nat.le_refl _) _).grown hgrow1 (by simp) (fun k hk => by cases hk; exact Nat.le_refl _)
  simp only [Nat.zero_add, List.nil_append] at hown1
  obtain ⟨g', c', hv', hrow⟩ := valRow_owned hown1 (fun h => by have h2 := (hnil1.1 h).1; cases h2) HN.out.2.2.2
  go_wp2
  go_ret
  exact ⟨g', c', congrArg Ending.returned hv', hrow, hb1⟩

/-- The variable out in block V: it holds a slice of k rows of the call's own, each with its numbers. -/
def OutIs (w : World) (V k : Nat) (ao : Option Addr) (c : Nat) (L : Nat → Nat) (Z : Nat → Nat → Int) : Prop :=
  w.heap[V]? = some (.cells #[.slice ao k c] 64 (0, 0)) ∧ ∃ xs, w.ownsRow (V + 1) 126 1 (.slice ao k c) k xs ∧
    ∀ i, i < k → ∃ g c', xs[i]? = some (.slice (some ⟨g, 0, none⟩) (L i) c') ∧ ValRow w g (L i) (Z i)

theorem OutIs.cell {w : World} {V k : Nat} {ao : Option Addr} {c : Nat} {L : Nat → Nat} {Z : Nat → Nat → Int} (h : OutIs w V k ao c L Z) : w.cell? ⟨V, 0, none⟩ = some (.slice ao k c) := by simp [World.cell?, h.1]
theorem OutIs.frozen {w : World} {V k : Nat} {ao : Option Addr} {c : Nat} {L : Nat → Nat} {Z : Nat → Nat → Int} (h : OutIs w V k ao c L Z) : w.frozen? ⟨V, 0, none⟩ = false := by simp [World.frozen?, h.1]

/-- One append: what the call of the builtin gives, and what stands behind the store. -/
theorem out_append {w w5 : World} {V k g' c' : Nat} {ao : Option Addr} {c : Nat} {L : Nat → Nat} {Z : Nat → Nat → Int} (hO : OutIs w V k ao c L Z) (hb : Below w.heap.size w w5) (hrow : ValRow w5 g' (L k) (Z k)) (hk : k < 65536) :
    ∃ h c6 w6, (Builtin.append_ #[64, 64] 64 #[.slice ao k c, .slice (some ⟨w5.heap.size, 0, none⟩) 1 1]).run Try.prog (w5.alloc (.cells #[.slice (some ⟨g', 0, none⟩) (L k) c'] 126)) = .ok (.slice (some ⟨h, 0, none⟩) (k + 1) c6) w6 ∧
      w6.cell? ⟨V, 0, none⟩ = some (.slice ao k c) ∧ w6.frozen? ⟨V, 0, none⟩ = false ∧ V < w6.heap.size ∧
      OutIs (w6.setCell ⟨V, 0, none⟩ (.slice (some ⟨h, 0, none⟩) (k + 1) c6)) V (k + 1) (some ⟨h, 0, none⟩) c6 L Z ∧ Below V w (w6.setCell ⟨V, 0, none⟩ (.slice (some ⟨h, 0, none⟩) (k + 1) c6)) := by
  have hc := hO.cell
  have hz := hO.frozen
  obtain ⟨hV, xs, hown, hxs⟩ := hO
  have hVlt : V < w.heap.size := World.block_lt_of_cell? _ _ hc
  obtain ⟨i0, hi, hz0, hz1, hz2⟩ := info_parts Try.info126
  obtain ⟨nw, hnw⟩ : ∃ nw : Value, nw = .slice (some ⟨g', 0, none⟩) (L k) c' := ⟨_, rfl⟩
  rw [← hnw]
  have hb5 : Below w.heap.size w (w5.alloc (.cells #[nw] 126)) := hb.alloc hb.size _
  have hown5 : (w5.alloc (.cells #[nw] 126)).ownsRow (V + 1) 126 1 (.slice ao k c) k xs :=
    hown.kept (below_grown (r := none) hb5) (by
      cases h : Value.ownBlock (.slice ao k c) with
      | none => exact .inl rfl
      | some j => exact .inr (by simp))
  obtain ⟨v', w6, hrun, hown6, hg6, hnil6⟩ := run_append_own (P := Try.prog) (w5.alloc (.cells #[nw] 126)) (V + 1) 64 64 126 i0 (.slice none 0 0) 1 24 Try.underlying64 hi hz0 hz1 hz2 rfl (by decide) (.slice ao k c) k xs hown5 ⟨w5.heap.size, 0, none⟩ 1 1 [nw] rfl
    (by
      intro j u hj
      match j, hj with
      | 0, hj => simp at hj; subst hj; simp [Addr.add])
    (by intro u hu; simp at hu; subst hu; subst hnw; rfl) (by unfold maxLen; omega) (by omega) (by simp; have := hb.size; omega)
  have hVne : some V ≠ Value.ownBlock (.slice ao k c) := fun e => by
    have := (hown.lt V e.symm).1
    omega
  have hc5 : (w5.alloc (.cells #[nw] 126)).cell? ⟨V, 0, none⟩ = some (.slice ao k c) := cell_later hb5 hc
  have hlt5 : V < (w5.alloc (.cells #[nw] 126)).heap.size := World.block_lt_of_cell? _ _ hc5
  have hc6 : w6.cell? ⟨V, 0, none⟩ = some (.slice ao k c) := hg6.cell hc5 hVne
  have hz6 : w6.frozen? ⟨V, 0, none⟩ = false := by
    rw [World.frozen?_of_block (w := w5.alloc (.cells #[nw] 126)) (hg6.block V hlt5 hVne), hb5.frozen (p := ⟨V, 0, none⟩) hVlt]
    exact hz
  rcases hown6.2 with ⟨h, _⟩ | ⟨h, c6, cur, rfl, hbase, hh, hle, hmx, hsz, htk⟩
  · exact absurd (hnil6.1 h).2 (by omega)
  have hV5 : (w5.alloc (.cells #[nw] 126)).heap[V]? = some (.cells #[.slice ao k c] 64 (0, 0)) := (hb5.block V hVlt).trans hV
  have hV6 : w6.heap[V]? = some (.cells #[.slice ao k c] 64 (0, 0)) := (hg6.block V hlt5 hVne).trans hV5
  refine ⟨h, c6, w6, hrun, hc6, hz6, World.block_lt_of_cell? _ _ hc6, ⟨?_, xs ++ [nw], ?_, fun i hi => ?_⟩, ?_⟩
  · simp [World.setCell, Array.getElem?_modify, hV6]
  · exact ownsRow_setCell_below hown6 (by show V < V + 1; omega) _
  · have hkeep : ∀ g l z, ValRow (w5.alloc (.cells #[nw] 126)) g l z → ValRow (w6.setCell ⟨V, 0, none⟩ (.slice (some ⟨h, 0, none⟩) (k + 1) c6)) g l z := by
      intro g l z hv
      have hlt := hv.lt
      have hgV : g ≠ V := fun e => by
        subst e
        obtain ⟨cur', h1, _⟩ := hv
        rw [h1] at hV5
        simp at hV5
      have hgo : some g ≠ Value.ownBlock (.slice ao k c) := fun e => by
        rcases hown5.2 with ⟨h0, _⟩ | ⟨g0, cap0, cur0, h0, _, hg0, _⟩
        · rw [h0] at e
          simp [Value.ownBlock] at e
        · rw [h0] at e
          simp [Value.ownBlock] at e
          subst e
          obtain ⟨cur', h1, _⟩ := hv
          rw [h1] at hg0
          simp at hg0
      exact hv.of_block ((Below.heap_setCell _ _ _ _ hgV).trans (hg6.block g hlt hgo))
    by_cases e : i = k
    · subst e
      refine ⟨g', c', ?_, hkeep _ _ _ (hrow.later ((Below.refl _ _).alloc (Nat.le_refl _) _))⟩
      rw [List.getElem?_append_right (by rw [hown.1]; omega), hown.1]
      simp [hnw]
    · obtain ⟨g, c2, h1, h2⟩ := hxs i (by omega)
      refine ⟨g, c2, ?_, hkeep _ _ _ (h2.later hb5)⟩
      rw [List.getElem?_append_left (by rw [hown.1]; omega)]
      exact h1
  · refine (((hb5.mono (Nat.le_of_lt hVlt)).grown hg6 (Nat.le_of_lt hlt5) (fun j hj => ?_)).setCell (Nat.le_refl _) _)
    have := (hown.lt j hj).1
    omega

/-- append as one step of a region that draws, what it gives being known. -/
theorem step_append_run {P : Program} {ops : Array Oper} {o : Oper} {a : Act} {w : World} {K : Act → World → Prop} {Q : Exit → Act → World → Prop} {E : Prop}
    (hg : o.guard = none) (s x : Operand) (t : TypeId) (hop : o.op = Op.call { callee := Callee.builtin Builtin.append, args := #[s, x], argTypes := #[t, t] }) (ty : TypeId) (hty : o.type = ty)
    {vs vx v' : Value} {w' : World} (hrun : (Builtin.append_ #[t, t] ty #[vs, vx]).run P w = .ok v' w') (hs : a.eval s = vs) (hx : a.eval x = vx)
    (hK : K (a.put o.dst v') w') : if Region.wanted o (yielded ops a.tmps) = true then Oper.wp P o a w K Q else E := by
  have hw : Region.wanted o (yielded ops a.tmps) = true := by simp [Region.wanted, hg]
  rw [if_pos hw]
  subst hty
  unfold Oper.wp
  simp [execOp, hop, resolve, invoke, builtin, hs, hx, hrun, Result.andThen]
  exact hK

set_option maxRecDepth 10000 in
set_option maxHeartbeats 1000000 in
/-- The closure of ZZscanRows: one row more. -/
theorem closure43_any (V g cp k : Nat) (ao : Option Addr) (c : Nat) (L : Nat → Nat) (Z : Nat → Nat → Int) (w : World) (hO : OutIs w V k ao c L Z) (hv : ValRow w g (L k) (Z k)) (hl : L k ≤ 1048576) (hk : k < 65536) :
    Calls Try.prog 43 #[.slice (some ⟨g, 0, none⟩) (L k) cp, .pointer (some ⟨V, 0, none⟩)] w fun e w' => ∃ h c6, e = .returned (.tuple #[]) ∧ OutIs w' V (k + 1) (some ⟨h, 0, none⟩) c6 L Z ∧ Below V w w' := by
  have hc := hO.cell
  have hz := hO.frozen
  have HO : Hid (OutIs w.drew V k ao c L Z) := hO
  have HV : Hid (ValRow w.drew g (L k) (Z k)) := hv
  clear hO hv
  go_enter Try.func43, Try.ntmps43
  go_wp2
  go_region_law (first
    | (refine step_append_run rfl (.tmp 3) (.tmp 6) 64 rfl 64 rfl hrun rfl rfl ?_)
    | (go_simp; go_at_call 44; refine (clone_any g (L k) cp (Z k) _ HV.out hl).mono ?_; rintro e w5 ⟨g', c', rfl, hrow, hb5⟩; obtain ⟨h, c6, w6, hrun, hc6, hz6, hlt6, hO6, hb6⟩ := out_append (c' := c') HO.out hb5 hrow hk; have hc5 := cell_later hb5 HO.out.cell; have hlt5 : V < w5.heap.size := World.block_lt_of_cell? _ _ hc5; have HO6 : Hid (OutIs (w6.setCell ⟨V, 0, none⟩ (.slice (some ⟨h, 0, none⟩) (k + 1) c6)) V (k + 1) (some ⟨h, 0, none⟩) c6 L Z) := hO6; clear hO6))
  all_goals go_wp2
  all_goals go_end0
  all_goals exact ⟨h, c6, rfl, HO6.out, (Below.refl V w).drew.trans hb6⟩

end Go.Proofs.Qxb6609098a
