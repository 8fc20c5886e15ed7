/-
  PieceExtents: ZZnewPieceExtents, Start, Length; and the plain arithmetic of the pieces.
-/
import Derived.Test.Qxb6614729aProg
import Derived.WalkKit
import Derived.WalkSpells
import Derived.WalkLawsBesides
import Derived.Deep.RegionWith
namespace Go.Proofs.Qxb6614729a
open Go.RowKit

theorem new_any (n p t : Int) (w : World) : Calls Try.prog 5 #[.int .i64 n, .int .i64 p, .int .i64 t] w fun e w' => e = .returned (.agg #[.int .i64 n, .int .i64 p, .int .i64 t]) ∧ w' = w.alloc (.cells #[.int .i64 n, .int .i64 p, .int .i64 t] 23) := by
  go_enter Try.func5, Try.ntmps5
  go_wp2
  exact bodyPost_ret (v := .agg #[.int .i64 n, .int .i64 p, .int .i64 t]) (by simp [results, Try.results5, go_sem]) rfl ⟨rfl, rfl⟩

theorem start_any (n p t i : Int) (w : World) (h0 : 0 ≤ i * p) (h1 : i * p ≤ 4611686018427387904) :
    Calls Try.prog 7 #[.agg #[.int .i64 n, .int .i64 p, .int .i64 t], .int .i64 i] w fun e w' => e = .returned (.int .i64 (i * p)) ∧ w' = w.alloc (.cells #[.int .i64 n, .int .i64 p, .int .i64 t] 23) := by
  go_enter Try.func7, Try.ntmps7
  go_wp2
  go_ret
  exact ⟨rfl, rfl⟩

theorem ret_int {a b : Int} (h : a = b) : Ending.returned (.int .i64 a) = .returned (.int .i64 b) := by rw [h]

set_option maxHeartbeats 1000000 in
theorem length_any (n p t i : Int) (w : World) (h0 : 0 ≤ i * p) (h1 : i * p ≤ 4611686018427387904) (ht0 : 0 ≤ t) (ht : t ≤ 1152921504606846976) :
    Calls Try.prog 6 #[.agg #[.int .i64 n, .int .i64 p, .int .i64 t], .int .i64 i] w fun e w' => e = .returned (.int .i64 (min p (t - i * p))) ∧ Below w.heap.size w w' := by
  have hwr : IntKind.i64.wrap (t - i * p) = t - i * p := by rw [IntKind.wrap_i64]; omega
  go_enter Try.func6, Try.ntmps6
  go_wp2
  go_region_with (go_at_call 7; refine (start_any _ _ _ _ _ h0 h1).mono ?_; rintro e wq ⟨rfl, rfl⟩)
  all_goals go_wp2
  all_goals go_ret
  all_goals refine ⟨ret_int ?_, (((Below.refl _ w).alloc (Nat.le_refl _) _).alloc (by simp) _).drew⟩
  all_goals (simp only [Int.min_def]; split <;> omega)

end Go.Proofs.Qxb6614729a
