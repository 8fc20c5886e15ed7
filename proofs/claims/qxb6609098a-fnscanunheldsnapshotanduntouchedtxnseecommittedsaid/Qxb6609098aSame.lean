/-
  zzSameRows: true, of rows that bear the numbers.
-/
import Derived.Test.Qxb6609098aSess
import Derived.Deep.DeepCutAuto
namespace Go.Proofs.Qxb6609098a
open Go.RowKit

theorem ValRow.cells {w : World} {g l : Nat} {z : Nat → Int} (h : ValRow w g l z) {j : Nat} (hj : j < l) :
    w.cell? ⟨g, j * 3, none⟩ = some (.int .u8 1) ∧ w.cell? ⟨g, j * 3 + 1, none⟩ = some (.int .i64 (z j)) ∧ ∃ s, w.cell? ⟨g, j * 3 + 2, none⟩ = some (.string s) := by
  obtain ⟨cur, hg, hc⟩ := h
  obtain ⟨h1, h2, s, h3⟩ := hc j hj
  refine ⟨?_, ?_, s, ?_⟩
  · simp [World.cell?, hg, h1]
  · simp [World.cell?, hg, h2]
  · simp [World.cell?, hg, h3]

set_option maxRecDepth 10000 in
set_option maxHeartbeats 4000000 in
theorem sameRows_any (ao a : Option Addr) (n c0 c : Nat) (A : Nat → Option Addr) (L C : Nat → Nat) (Z : Nat → Nat → Int) (w : World) (hS : RowsArg w a n A L C Z) (hG : GotRows w ao n L Z) :
    Calls Try.prog 30 #[.slice ao n c0, .slice a n c] w fun e w' => e = .returned (.bool true) ∧ Below w.heap.size w w' := by
  obtain ⟨hn, hS⟩ := hS
  unfold maxLen at hn
  go_enter Try.func30, Try.ntmps30
  go_wp2
  go_loopw [5] (fun i wr => ∃ k : Nat, k ≤ n ∧ i = .int .i64 k ∧ Below w.heap.size w wr) (fun i _ => n - (intOf i).toNat)
  case atStart => exact ⟨0, Nat.zero_le _, rfl, Below.refl _ _⟩
  case round =>
    obtain ⟨k, hk, rfl, hb⟩ := hrel
    by_cases hlt : k < n
    · obtain ⟨b, off, rfl, hc⟩ := hS.resolve_left (by omega)
      obtain ⟨h, rfl, hg⟩ := hG.resolve_left (by omega)
      obtain ⟨p1, hlk, prow⟩ := hc k hlt
      obtain ⟨g, c', q1, qrow⟩ := hg k hlt
      unfold maxLen at hlk
      clear hc hg hS hG
      obtain ⟨w1, rfl⟩ : ∃ w1, w1 = wr := ⟨_, rfl⟩
      have hlti : (k : Int) < (n : Int) := by omega
      have p1' := cell_later hb p1
      have q1' := cell_later hb q1
      go_wp2
      go_region
      all_goals go_wp2
      all_goals go_loopw [6] (fun i wi => ∃ j : Nat, j ≤ L k ∧ i = .int .i64 j ∧ Below w.heap.size w wi) (fun i _ => L k - (intOf i).toNat)
      case atStart => exact ⟨0, Nat.zero_le _, rfl, hb.drew⟩
      case round =>
        clear p1' q1' hb
        obtain ⟨j, hj, rfl, hbi⟩ := hrel
        obtain ⟨w2, rfl⟩ : ∃ w2, w2 = wr := ⟨_, rfl⟩
        have p2 := cell_later hbi p1
        have q2 := cell_later hbi q1
        by_cases hjl : j < L k
        · obtain ⟨b', off', hA, _, hc'⟩ := prow.resolve_left (by omega)
          have hz := cell_later hbi (hc' j hjl)
          rw [hA] at p2
          clear hA hc' prow
          obtain ⟨v0, v1, s, v2⟩ := (qrow.later hbi).cells hjl
          have l1 := World.block_lt_of_cell? _ _ p2
          have l2 := World.block_lt_of_cell? _ _ q2
          have l3 := World.block_lt_of_cell? _ _ hz
          have l4 := World.block_lt_of_cell? _ _ v0
          have hji : (j : Int) < (L k : Int) := by omega
          clear p1 q1 qrow
          go_wp2
          go_cut [60] (fun s60 wx => s60 = .bool false ∧ Below w.heap.size w wx)
          case first =>
            have l1' : b < w2.heap.size + 1 := by omega
            have l3' : b' < w2.heap.size + 1 := by omega
            have l1'' : b < w2.heap.size + 1 + 1 := by omega
            have l3'' : b' < w2.heap.size + 1 + 1 := by omega
            go_region_with (first | (go_at_call 45; refine (vKind_any _ _ _ _).mono ?_; rintro e wq ⟨rfl, rfl⟩) | (go_at_call 46; refine (vInt_any _ _ _ _).mono ?_; rintro e wq ⟨rfl, rfl⟩))
            all_goals go_wp2_with fail
            all_goals go_meet
            all_goals exact ⟨rfl, (((hbi.alloc hbi.size _).alloc (Nat.le_trans hbi.size (by simp)) _).alloc (Nat.le_trans hbi.size (by simp; omega)) _).drew⟩
          case rest =>
            obtain ⟨rfl, hbx⟩ := hcut
            go_wp2
            go_roundw
            case rel => exact ⟨j + 1, by omega, by go_num, hbx⟩
            case measure => simp [intOf]; omega
        · clear p1 q1 qrow prow
          go_wp2
          go_roundw
          case rel => exact ⟨k + 1, by omega, by go_num, hbi⟩
          case measure => simp [intOf]; omega
    · go_wp2
      go_ret
      exact ⟨rfl, hb⟩

end Go.Proofs.Qxb6609098a
