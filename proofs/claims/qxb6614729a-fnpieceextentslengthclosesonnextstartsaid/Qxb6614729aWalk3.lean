/-
  The walk of FnPieceExtentsLengthClosesOnNextStart.
-/
import Derived.Test.Qxb6614729aBase
import Derived.Test.Qxb6614729aArith
namespace Go.Proofs.Qxb6614729a
open Go.RowKit

theorem wrap_top {i : Int} (h1 : 9223372036854775807 ≤ i) (h2 : i ≤ 9223372036854775807) : wrap64 (i + 1) ≤ i := by unfold wrap64; omega

set_option maxRecDepth 10000 in
set_option maxHeartbeats 2000000 in
theorem walk3 (p t i : Int) (w : World) (hi2 : i ≤ 9223372036854775807) :
    Calls Try.prog 3 #[.int .i64 p, .int .i64 t, .int .i64 i] w fun e w' => e = .returned (.bool true) ∧ Below w.heap.size w w' := by
  by_cases b1 : p < 1
  · go_enter Try.func3, Try.ntmps3
    go_wp2
    go_ret
    exact ⟨rfl, Below.refl _ _⟩
  by_cases b2 : 1152921504606846976 < p
  · go_enter Try.func3, Try.ntmps3
    go_wp2
    go_ret
    exact ⟨rfl, Below.refl _ _⟩
  by_cases b3 : t < 1
  · go_enter Try.func3, Try.ntmps3
    go_wp2
    go_ret
    exact ⟨rfl, Below.refl _ _⟩
  by_cases b4 : 1152921504606846976 < t
  · go_enter Try.func3, Try.ntmps3
    go_wp2
    go_ret
    exact ⟨rfl, Below.refl _ _⟩
  by_cases b5 : i < 0
  · go_enter Try.func3, Try.ntmps3
    go_wp2
    go_ret
    exact ⟨rfl, Below.refl _ _⟩
  by_cases b6 : 9223372036854775807 ≤ i
  · have hwt := wrap_top b6 hi2
    go_enter Try.func3, Try.ntmps3
    go_wp2
    go_ret
    exact ⟨rfl, Below.refl _ _⟩
  obtain ⟨q, hq⟩ : ∃ q, (t + p - 1) / p = q := ⟨_, rfl⟩
  have hq0 := q_nonneg (by omega) (by omega) hq
  have hq2 := q_le (by omega) (by omega) hq
  by_cases b7 : q ≤ i
  · go_enter Try.func3, Try.ntmps3
    go_wp2
    go_ret
    exact ⟨rfl, Below.refl _ _⟩
  obtain ⟨s0, s1⟩ := start_le (by omega) hq (by omega) (by omega : i < q)
  by_cases hl : i = q - 1
  · obtain ⟨e1, e2⟩ := last_eq (by omega) hq hl
    have hq1 : q - 1 = i := by omega
    have HE1 : Hid (min p (t - i * p) = t - i * p) := e1
    have HE2 : Hid ((t - 1) % p + 1 = t - i * p) := e2
    clear e1 e2 hl
    go_enter Try.func3, Try.ntmps3
    go_wp2_with fail
    refine (new_any _ _ _ _).mono ?_
    rintro e w1 ⟨rfl, rfl⟩
    go_wp2_with fail
    refine (length_any _ _ _ _ _ s0 (by omega) (by omega) (by omega)).mono ?_
    rintro e w2 ⟨he, hb⟩
    rw [HE1.out] at he
    subst he
    have c0 : w2.cell? ⟨w.heap.size + 1, 0, none⟩ = some (.int .i64 q) := cell_later hb (by simp [go_sem])
    have c1 : w2.cell? ⟨w.heap.size + 1, 1, none⟩ = some (.int .i64 p) := cell_later hb (by simp [go_sem])
    have c2 : w2.cell? ⟨w.heap.size + 1, 2, none⟩ = some (.int .i64 t) := cell_later hb (by simp [go_sem])
    have hlt := World.block_lt_of_cell? _ _ c0
    have hbw : Below w.heap.size w w2 := (((Below.refl _ w).alloc (Nat.le_refl _) _).alloc (by simp) _).trans (hb.mono (by simp; omega))
    clear hb
    go_wp2_with fail
    refine (start_any _ _ _ _ _ s0 (by omega)).mono ?_
    rintro e w3 ⟨rfl, rfl⟩
    have hm0 : 0 ≤ (t - 1) % p := Int.emod_nonneg _ (by omega)
    have hm1 : (t - 1) % p < p := Int.emod_lt_of_pos _ (by omega)
    have e2 := HE2.out
    have hid : (i == q - 1) = true := by simp; omega
    clear hq1 HE1 HE2
    go_wp2
    go_ret
    exact ⟨congrArg (fun x => Ending.returned (.bool x)) (by rw [beq_iff_eq]; omega : (i * p + (t - i * p) == t) = true), hbw.alloc hbw.size _⟩
  · obtain ⟨e1, e2, e3⟩ := mid_eq (i := i) (by omega) hq (by omega)
    have HE1 : Hid (min p (t - i * p) = p) := e1
    have HE2 : Hid ((i + 1) * p = i * p + p) := e2
    clear e1 e2
    have hid : (i == q - 1) = false := by simp; omega
    go_enter Try.func3, Try.ntmps3
    go_wp2_with fail
    refine (new_any _ _ _ _).mono ?_
    rintro e w1 ⟨rfl, rfl⟩
    go_wp2_with fail
    refine (length_any _ _ _ _ _ s0 (by omega) (by omega) (by omega)).mono ?_
    rintro e w2 ⟨he, hb⟩
    rw [HE1.out] at he
    subst he
    have c0 : w2.cell? ⟨w.heap.size + 1, 0, none⟩ = some (.int .i64 q) := cell_later hb (by simp [go_sem])
    have c1 : w2.cell? ⟨w.heap.size + 1, 1, none⟩ = some (.int .i64 p) := cell_later hb (by simp [go_sem])
    have c2 : w2.cell? ⟨w.heap.size + 1, 2, none⟩ = some (.int .i64 t) := cell_later hb (by simp [go_sem])
    have hlt := World.block_lt_of_cell? _ _ c0
    have hbw : Below w.heap.size w w2 := (((Below.refl _ w).alloc (Nat.le_refl _) _).alloc (by simp) _).trans (hb.mono (by simp; omega))
    clear hb
    go_wp2_with fail
    refine (start_any _ _ _ _ _ s0 (by omega)).mono ?_
    rintro e w3 ⟨rfl, rfl⟩
    go_wp2_with fail
    refine (start_any _ _ _ _ _ (by rw [HE2.out]; omega) (by rw [HE2.out]; omega)).mono ?_
    rintro e w4 ⟨rfl, rfl⟩
    have e2 := HE2.out
    clear HE1 HE2
    go_wp2
    go_ret
    exact ⟨rfl, (hbw.alloc hbw.size _).alloc (by simp; exact Nat.le_trans hbw.size (by omega)) _⟩

end Go.Proofs.Qxb6614729a
