/-
  A session with an open transaction that has changed no table, and a snapshot, but no LOCK TABLES locks.
-/
import Derived.Test.Qxb6609098aMaps
namespace Go.Proofs.Qxb6609098a
open Go.RowKit

/-- The transaction in block X with no changes. -/
def TxnAt (w : World) (X : Nat) : Prop := ∃ M ck, w.cell? ⟨X, 0, none⟩ = some (.map (some M)) ∧ w.heap[M]? = some (.map #[] ck)
/-- The map M holds one snapshot, of table T. -/
def SnapAt (w : World) (M T : Nat) (cut : Int) : Prop := ∃ ck bn, w.heap[M]? = some (.map #[{ key := .pointer (some ⟨T, 0, none⟩), val := .agg #[.pointer (some ⟨T, 0, none⟩), .int .i64 cut], born := bn }] ck)

theorem holds_any (H : Nat) (w : World) (h : w.cell? ⟨H, 3, none⟩ = some (.bool false)) : Calls Try.prog 51 #[.pointer (some ⟨H, 0, none⟩)] w fun e w' => e = .returned (.bool false) ∧ w' = w := by
  go_enter Try.func51, Try.ntmps51
  go_wp2
  go_ret
  exact ⟨rfl, rfl⟩

theorem newSnapshot_any (T : Nat) (cut : Int) (w : World) : Calls Try.prog 34 #[.pointer (some ⟨T, 0, none⟩), .int .i64 cut] w fun e w' => e = .returned (.agg #[.pointer (some ⟨T, 0, none⟩), .int .i64 cut]) ∧ Below w.heap.size w w' := by
  go_enter Try.func34, Try.ntmps34
  go_wp2
  exact bodyPost_ret (v := .agg #[.pointer (some ⟨T, 0, none⟩), .int .i64 cut]) (by simp [results, Try.results34, go_sem]) rfl ⟨rfl, (Below.refl _ _).alloc (Nat.le_refl _) _⟩

set_option maxRecDepth 10000 in
set_option maxHeartbeats 1000000 in
theorem openTxn_any (S : Nat) (lk sn : Value) (w : World) (hS : SessAt w S lk (.pointer none) sn) :
    Calls Try.prog 32 #[.pointer (some ⟨S, 0, none⟩)] w fun e w' => ∃ X, e = .returned (.tuple #[]) ∧ SessAt w' S lk (.pointer (some ⟨X, 0, none⟩)) sn ∧ TxnAt w' X ∧ S < X ∧ w.grownBy w' (some S) := by
  have hlt := hS.lt
  have hS0 := hS
  obtain ⟨d35, d36, d40, z36, z40⟩ := hS
  have hmm := @run_makeMap Try.prog
  have hlt1 : S < w.heap.size + 1 := by omega
  have hlt2 : S < w.heap.size + 1 + 1 := by omega
  go_enter Try.func32, Try.ntmps32
  have hsz : (w.setCell ⟨S, 36, none⟩ (.pointer (some ⟨w.heap.size + 1, 0, none⟩))).heap.size = w.heap.size := by simp [World.setCell]
  have hS1 : SessAt (w.setCell ⟨S, 36, none⟩ (.pointer (some ⟨w.heap.size + 1, 0, none⟩))) S lk (.pointer (some ⟨w.heap.size + 1, 0, none⟩)) sn :=
    ⟨(World.cell?_setCell_other w ⟨S, 36, none⟩ ⟨S, 35, none⟩ _ (by simp)).trans d35, World.cell?_setCell_same w ⟨S, 36, none⟩ _ d36, (World.cell?_setCell_other w ⟨S, 36, none⟩ ⟨S, 40, none⟩ _ (by simp)).trans d40, by simpa using z36, by simpa using z40⟩
  have HS1 : Hid (SessAt (w.setCell ⟨S, 36, none⟩ (.pointer (some ⟨w.heap.size + 1, 0, none⟩))) S lk (.pointer (some ⟨w.heap.size + 1, 0, none⟩)) sn) := hS1
  have HSZ : Hid ((w.setCell ⟨S, 36, none⟩ (.pointer (some ⟨w.heap.size + 1, 0, none⟩))).heap.size = w.heap.size) := hsz
  clear hS1 hsz hS0
  go_wp2
  go_end0
  refine ⟨w.heap.size + 1, rfl, HS1.out.later (((Below.refl _ _).alloc (Nat.le_refl _) _).alloc (by simp) _), ⟨w.heap.size, 0, by simp [go_sem, HSZ.out], ?_⟩, by omega, grown_alloc (grown_alloc (grown_set (World.grownBy.refl w _) _) _) _⟩
  have h1 := heap_new (w.setCell ⟨S, 36, none⟩ (.pointer (some ⟨w.heap.size + 1, 0, none⟩))) (.map #[] 0)
  rw [HSZ.out] at h1
  rw [Below.heap_alloc _ _ _ (by simp [HSZ.out])]
  exact h1

/-- The one entry put into a new map: the world behind it. -/
theorem put_at (T : Nat) (v : Value) (o : Obj) (w : World) : ∃ w5 : World, (Instr.mapUpdate 106 (.map (some (w.heap.size + 1))) (.pointer (some ⟨T, 0, none⟩)) v).run Try.prog ((w.alloc o).alloc (.map #[] 0)) = .ok () w5 ∧
    w5.heap[w.heap.size + 1]? = some (.map #[{ key := .pointer (some ⟨T, 0, none⟩), val := v, born := 0 }] 1) ∧ Below w.heap.size w w5 ∧ w.heap.size + 1 < w5.heap.size := by
  have hm : ((w.alloc o).alloc (.map #[] 0)).heap[w.heap.size + 1]? = some (.map #[] 0) := by
    have h1 := heap_new (w.alloc o) (.map #[] 0)
    simpa using h1
  refine ⟨_, put_one T (w.heap.size + 1) 0 v _ hm, ?_, ?_, ?_⟩
  · simp
  · have hb := ((Below.refl w.heap.size w).alloc (Nat.le_refl _) o).alloc (by simp) (.map #[] 0)
    refine ⟨hb.os, hb.tape, hb.output, by simpa using hb.size, fun k hk => ?_⟩
    rw [← hb.block k hk]
    simp only [Array.getElem?_setIfInBounds]
    rw [if_neg (by omega)]
  · simp

set_option maxRecDepth 10000 in
set_option maxHeartbeats 1000000 in
theorem setSnapshot_any (S T : Nat) (cut : Int) (lk tx : Value) (w : World) (hS : SessAt w S lk tx (.map none)) :
    Calls Try.prog 33 #[.pointer (some ⟨S, 0, none⟩), .pointer (some ⟨T, 0, none⟩), .agg #[.pointer (some ⟨T, 0, none⟩), .int .i64 cut]] w fun e w' => ∃ M, e = .returned (.tuple #[]) ∧ SessAt w' S lk tx (.map (some M)) ∧ SnapAt w' M T cut ∧ w.grownBy w' (some S) := by
  have hlt := hS.lt
  have hmm := @run_makeMap Try.prog
  obtain ⟨w5, hput, hm5, hb5, hlt5⟩ := put_at T (.agg #[.pointer (some ⟨T, 0, none⟩), .int .i64 cut]) (.cells #[.pointer (some ⟨T, 0, none⟩), .int .i64 cut] 71) w
  have hS5 := hS.later hb5
  have hS6 := hS5
  obtain ⟨d35, d36, d40, z36, z40⟩ := hS5
  have HM : Hid (w5.heap[w.heap.size + 1]? = some (.map #[{ key := .pointer (some ⟨T, 0, none⟩), val := .agg #[.pointer (some ⟨T, 0, none⟩), .int .i64 cut], born := 0 }] 1)) := hm5
  have hSlt5 : S < w5.heap.size := by omega
  clear hm5 hS hS6
  go_enter Try.func33, Try.ntmps33
  go_wp2
  go_end0
  refine ⟨w.heap.size + 1, rfl, ⟨(World.cell?_setCell_other w5 ⟨S, 40, none⟩ ⟨S, 35, none⟩ _ (by simp)).trans d35, (World.cell?_setCell_other w5 ⟨S, 40, none⟩ ⟨S, 36, none⟩ _ (by simp)).trans d36, World.cell?_setCell_same w5 ⟨S, 40, none⟩ _ d40, by simpa using z36, by simpa using z40⟩, ⟨1, 0, ?_⟩, grown_set (below_grown hb5) _⟩
  rw [Below.heap_setCell _ _ _ _ (by show w.heap.size + 1 ≠ S; omega)]
  exact HM.out

end Go.Proofs.Qxb6609098a
