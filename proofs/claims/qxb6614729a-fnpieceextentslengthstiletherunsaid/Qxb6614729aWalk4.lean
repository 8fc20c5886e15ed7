/-
  The walk of FnPieceExtentsLengthsTileTheRun.
-/
import Derived.Test.Qxb6614729aBase
import Derived.Test.Qxb6614729aArith
namespace Go.Proofs.Qxb6614729a
open Go.RowKit

/-- The extents in their block. -/
def ExtAt (w : World) (B : Nat) (q p t : Int) : Prop :=
  w.cell? ⟨B, 0, none⟩ = some (.int .i64 q) ∧ w.cell? ⟨B, 1, none⟩ = some (.int .i64 p) ∧ w.cell? ⟨B, 2, none⟩ = some (.int .i64 t)

theorem ExtAt.later {w w' : World} {B : Nat} {q p t : Int} (h : ExtAt w B q p t) (hb : Below w.heap.size w w') : ExtAt w' B q p t := ⟨cell_later hb h.1, cell_later hb h.2.1, cell_later hb h.2.2⟩

/-- Where the walk over the pieces stands ahead of piece k. -/
def Stands (q p t k ps pv : Int) : Prop := (k < q → ps = k * p ∧ pv = p) ∧ (k = q → ps = t)

set_option maxRecDepth 10000 in
set_option maxHeartbeats 2000000 in
theorem walk4 (p t : Int) (w : World) :
    Calls Try.prog 4 #[.int .i64 p, .int .i64 t] w fun e w' => e = .returned (.bool true) ∧ Below w.heap.size w w' := by
  by_cases b1 : p < 1
  · go_enter Try.func4, Try.ntmps4
    go_wp2
    go_ret
    exact ⟨rfl, Below.refl _ _⟩
  by_cases b2 : 1152921504606846976 < p
  · go_enter Try.func4, Try.ntmps4
    go_wp2
    go_ret
    exact ⟨rfl, Below.refl _ _⟩
  by_cases b3 : t < 0
  · go_enter Try.func4, Try.ntmps4
    go_wp2
    go_ret
    exact ⟨rfl, Below.refl _ _⟩
  by_cases b4 : 1152921504606846976 < t
  · go_enter Try.func4, Try.ntmps4
    go_wp2
    go_ret
    exact ⟨rfl, Below.refl _ _⟩
  obtain ⟨q, hq⟩ : ∃ q, (t + p - 1) / p = q := ⟨_, rfl⟩
  have hq0 := q_nonneg (by omega) (by omega) hq
  have hq2 := q_le (by omega) (by omega) hq
  by_cases b5 : 65536 < q
  · go_enter Try.func4, Try.ntmps4
    go_wp2
    go_ret
    exact ⟨rfl, Below.refl _ _⟩
  have HST : Hid (Stands q p t 0 0 p) := by
    refine ⟨fun _ => ⟨by simp, rfl⟩, fun h => ?_⟩
    by_cases ht : 1 ≤ t
    · have := all_len (by omega) hq ht
      omega
    · omega
  have HQ : Hid ((t + p - 1) / p = q) := hq
  go_enter Try.func4, Try.ntmps4
  go_wp2_with fail
  refine (new_any _ _ _ _).mono ?_
  rintro e w1 ⟨rfl, rfl⟩
  go_wp2
  clear hq
  go_loopw [8, 9, 10] (fun s8 s9 i wr => ∃ k ps pv : Int, 0 ≤ k ∧ k ≤ q ∧ i = .int .i64 k ∧ s8 = .int .i64 ps ∧ s9 = .int .i64 pv ∧ Stands q p t k ps pv ∧ ExtAt wr (w.heap.size + 1) q p t ∧ Below w.heap.size w wr) (fun _ _ i _ => (q - intOf i).toNat)
  case atStart => exact ⟨0, 0, p, by omega, hq0, rfl, rfl, rfl, HST.out, ⟨by simp [go_sem], by simp [go_sem], by simp [go_sem]⟩, ((Below.refl _ w).alloc (Nat.le_refl _) _).alloc (by simp) _⟩
  case round =>
    clear HST
    obtain ⟨k, ps, pv, hk0, hkq, rfl, rfl, rfl, hst, hx, hb⟩ := hrel
    by_cases hlt : k < q
    · obtain ⟨rfl, rfl⟩ := hst.1 hlt
      obtain ⟨s0, s1⟩ := start_le (by omega) HQ.out hk0 hlt
      obtain ⟨c0, c1, c2⟩ := hx
      have hlt0 := World.block_lt_of_cell? _ _ c0
      obtain ⟨l, hl1, hl2, hl3, hl4⟩ : ∃ l : Int, min pv (t - k * pv) = l ∧ 1 ≤ l ∧ l ≤ pv ∧ Stands q pv t (k + 1) (k * pv + l) l := by
        by_cases hl : k = q - 1
        · obtain ⟨e1, e2⟩ := last_eq (by omega) HQ.out hl
          exact ⟨t - k * pv, e1, by omega, by rw [← e1]; exact Int.min_le_left _ _, fun h => by omega, fun _ => by omega⟩
        · obtain ⟨e1, e2, e3⟩ := mid_eq (i := k) (by omega) HQ.out (by omega)
          exact ⟨pv, e1, by omega, by omega, fun _ => ⟨e2.symm, rfl⟩, fun h => by omega⟩
      have HL1 : Hid (min pv (t - k * pv) = l) := hl1
      have HL4 : Hid (Stands q pv t (k + 1) (k * pv + l) l) := hl4
      clear hl1 hl4 hst
      go_wp2_with fail
      refine (start_any _ _ _ _ _ s0 (by omega)).mono ?_
      rintro e w2 ⟨rfl, rfl⟩
      go_wp2_with fail
      refine (length_any _ _ _ _ _ s0 (by omega) (by omega) (by omega)).mono ?_
      rintro e w3 ⟨he, hb3⟩
      rw [HL1.out] at he
      subst he
      have hb1 : Below wr.heap.size wr w3 := ((Below.refl _ wr).alloc (Nat.le_refl _) _).trans (hb3.mono (by simp))
      have hx3 : ExtAt w3 (w.heap.size + 1) q pv t := ExtAt.later ⟨c0, c1, c2⟩ hb1
      have hbw : Below w.heap.size w w3 := hb.trans (hb1.mono hb.size)
      clear hb3 hb1 hb c0 c1 c2
      go_wp2
      go_roundw
      case rel => exact ⟨k + 1, _, _, by omega, by omega, rfl, rfl, rfl, HL4.out, hx3, hbw⟩
      case measure => simp [intOf]; omega
    · obtain rfl : ps = t := hst.2 (by omega)
      clear hx hst
      go_wp2
      go_ret
      exact ⟨rfl, hb⟩

end Go.Proofs.Qxb6614729a
