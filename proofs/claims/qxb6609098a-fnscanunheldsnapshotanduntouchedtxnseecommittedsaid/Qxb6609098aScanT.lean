/-
  (*Table).Scan: it hands each row to the closure, under the reader's lock, and leaves the table as it was.
-/
import Derived.Test.Qxb6609098aScan
import Derived.Test.Qxb6609098aLocks
namespace Go.Proofs.Qxb6609098a
open Go.RowKit
open Go.RwLone

/-- The block of a table, rc readers in. -/
def TableIs (w : World) (T : Nat) (c0 : Value) (R n : Nat) (rc : Int) : Prop :=
  w.heap[T]? = some (.cells #[c0, .int .i32 0, .int .u32 0, .int .u32 0, .int .u32 0, .int .i32 rc, .int .i32 0, .slice (some ⟨R, 0, none⟩) n n] 157 (0, 0))

theorem TableIs.cells {w : World} {T : Nat} {c0 : Value} {R n : Nat} {rc : Int} (h : TableIs w T c0 R n rc) :
    w.cell? ⟨T, 1, none⟩ = some (.int .i32 0) ∧ w.cell? ⟨T, 3, none⟩ = some (.int .u32 0) ∧ w.cell? ⟨T, 4, none⟩ = some (.int .u32 0) ∧ w.cell? ⟨T, 5, none⟩ = some (.int .i32 rc) ∧ w.cell? ⟨T, 7, none⟩ = some (.slice (some ⟨R, 0, none⟩) n n) ∧ w.frozen? ⟨T, 5, none⟩ = false := by
  unfold TableIs at h
  refine ⟨?_, ?_, ?_, ?_, ?_, ?_⟩ <;> simp [World.cell?, World.frozen?, h]

theorem TableIs.set {w : World} {T : Nat} {c0 : Value} {R n : Nat} {rc : Int} (h : TableIs w T c0 R n rc) (r : Int) : TableIs (w.setCell ⟨T, 5, none⟩ (.int .i32 r)) T c0 R n r := by
  unfold TableIs at *
  simp [World.setCell, Array.getElem?_modify, h]

/-- A row of SQL values is no table. -/
theorem ValRow.besideT {w : World} {g l : Nat} {z : Nat → Int} {T : Nat} {c0 : Value} {R n : Nat} {rc : Int} (h : ValRow w g l z) (hT : TableIs w T c0 R n rc) (o : Nat) (v : Value) : ValRow (w.setCell ⟨T, o, none⟩ v) g l z := by
  refine h.of_block (Below.heap_setCell _ _ _ _ ?_)
  intro e
  have e' : g = T := e
  subst e'
  obtain ⟨cur, h1, _⟩ := h
  rw [hT] at h1
  simp at h1

theorem VRows.besideT {w : World} {T : Nat} {c0 : Value} {R n k m : Nat} {rc : Int} {L : Nat → Nat} {Z : Nat → Nat → Int} {R' : Nat} (h : VRows w R' m k L Z) (hT : TableIs w T c0 R n rc) (o : Nat) (v : Value) : VRows (w.setCell ⟨T, o, none⟩ v) R' m k L Z := by
  obtain ⟨f, hr, hf⟩ := h
  refine ⟨f, hr.of_block (Below.heap_setCell _ _ _ _ ?_), fun i hi => ?_⟩
  · intro e
    have e' : R' = T := e
    subst e'
    obtain ⟨c, h1, _⟩ := hr
    rw [hT] at h1
    simp at h1
  · obtain ⟨g, h1, h2⟩ := hf i hi
    exact ⟨g, h1, h2.besideT hT o v⟩

/-- What lies below V stays. -/
theorem ValRow.under {w w' : World} {g l : Nat} {z : Nat → Int} {V : Nat} (h : ValRow w g l z) (hg : g < V) (hb : Below V w w') : ValRow w' g l z := h.of_block (hb.block _ hg)

theorem OutIs.besideT {w : World} {V k : Nat} {ao : Option Addr} {c : Nat} {L : Nat → Nat} {Z : Nat → Nat → Int} {T : Nat} {c0 : Value} {R n : Nat} {rc : Int} (h : OutIs w V k ao c L Z) (hT : TableIs w T c0 R n rc) (hTV : T < V) (o : Nat) (v : Value) :
    OutIs (w.setCell ⟨T, o, none⟩ v) V k ao c L Z := by
  obtain ⟨h1, xs, h2, h3⟩ := h
  refine ⟨(Below.heap_setCell _ _ _ _ (by show V ≠ T; omega)).trans h1, xs, ownsRow_setCell_below h2 (by show T < V + 1; omega) _, fun i hi => ?_⟩
  obtain ⟨g, c', h4, h5⟩ := h3 i hi
  exact ⟨g, c', h4, h5.besideT hT o v⟩

/-- Locked, written above V, unlocked: below V all is as it was. -/
theorem below_locked {w wr : World} {V T : Nat} {c0 : Value} {R n : Nat} {r : Int} (hT : TableIs w T c0 R n 0) (hb : Below V (w.setCell ⟨T, 5, none⟩ (.int .i32 r)) wr) (hTV : T < V) : Below V w (wr.setCell ⟨T, 5, none⟩ (.int .i32 0)) := by
  have hTr : TableIs wr T c0 R n r := (hb.block T hTV).trans (hT.set r)
  refine ⟨hb.os, hb.tape, hb.output, ?_, fun k hk => ?_⟩
  · have := hb.size
    simpa [World.setCell] using this
  · by_cases e : k = T
    · subst e
      exact (hTr.set 0).trans hT.symm
    · rw [Below.heap_setCell _ _ _ _ (by exact e), hb.block k hk, Below.heap_setCell _ _ _ _ (by exact e)]

theorem wrap32_one : wrap32 (0 + 1) = 1 := by unfold wrap32; omega
theorem wrap32_back : wrap32 (1 + -1) = 0 := by unfold wrap32; omega

set_option maxRecDepth 10000 in
set_option maxHeartbeats 2000000 in
theorem tableScan_any (T R n V : Nat) (L : Nat → Nat) (Z : Nat → Nat → Int) (w0 w : World) (h0V : w0.heap.size ≤ V) (hT0 : TableAt w0 T R n) (hR0 : VRows w0 R n n L Z) (hb0 : Below w0.heap.size w0 w) (hO : OutIs w V 0 none 0 L Z) (hL : ∀ j, j < n → L j ≤ 1048576) (hn : n ≤ 65536) :
    Calls Try.prog 53 #[.pointer (some ⟨T, 0, none⟩), .func (.func 43) #[] #[.pointer (some ⟨V, 0, none⟩)]] w fun e w' => ∃ ao c, e = .returned (.tuple #[]) ∧ OutIs w' V n ao c L Z ∧ Below V w w' := by
  have hTV : T < V := Nat.lt_of_lt_of_le hT0.lt h0V
  obtain ⟨c0, hT⟩ : ∃ c0, TableIs w T c0 R n 0 := hT0.later hb0
  have hR : VRows w R n n L Z := hR0.later hb0
  obtain ⟨d1, d3, d4, d5, d7, z5⟩ := hT.cells
  have hT1 : TableIs (w.setCell ⟨T, 5, none⟩ (.int .i32 1)) T c0 R n 1 := hT.set 1
  have hR1 : VRows (w.setCell ⟨T, 5, none⟩ (.int .i32 1)) R n n L Z := hR.besideT hT 5 _
  have hO1 : OutIs (w.setCell ⟨T, 5, none⟩ (.int .i32 1)) V 0 none 0 L Z := hO.besideT hT hTV 5 _
  have hRV : ∀ i, i < n → ∃ g, (w.setCell ⟨T, 5, none⟩ (.int .i32 1)).cell? ⟨R, i, none⟩ = some (.slice (some ⟨g, 0, none⟩) (L i) (L i)) ∧ ValRow (w.setCell ⟨T, 5, none⟩ (.int .i32 1)) g (L i) (Z i) ∧ g < V ∧ R < V := fun i hi => by
    obtain ⟨f, hr, hf⟩ := hR0
    obtain ⟨g, hfi, hv⟩ := hf i hi
    have hRne : R ≠ T := fun e => by
      subst e
      obtain ⟨c, h1, _⟩ := hr.of_block (hb0.block _ hr.lt)
      rw [hT] at h1
      simp at h1
    refine ⟨g, ?_, (hv.later hb0).besideT hT 5 _, Nat.lt_of_lt_of_le hv.lt h0V, Nat.lt_of_lt_of_le hr.lt h0V⟩
    rw [← hfi]
    exact ((hr.of_block (hb0.block _ hr.lt)).of_block (Below.heap_setCell _ _ _ _ hRne)).cell hi
  obtain ⟨w1, hw1⟩ : ∃ w1, w1 = w.setCell ⟨T, 5, none⟩ (.int .i32 1) := ⟨_, rfl⟩
  have e7 := hT1.cells.2.2.2.2.1
  rw [← hw1] at hT1 hR1 hO1 hRV e7
  have HW1 : Hid (w1 = w.setCell ⟨T, 5, none⟩ (.int .i32 1)) := hw1
  have HT : Hid (TableIs w T c0 R n 0) := hT
  clear hw1 hT hR hO hT0 hR0 hb0 d7
  go_enter_defers Try.func53, Try.ntmps53
  go_wp2_with fail
  refine (rlock_open Try.rwRLib T 1 0 _ _ _ d1 d4 d5 z5 (by rw [wrap32_one]; decide)).mono ?_
  rintro e wx ⟨rfl, hwx⟩
  rw [wrap32_one, ← HW1.out] at hwx
  obtain rfl := hwx.symm
  clear d1 d3 d4 d5 z5 hwx
  have HL : Hid (∀ j, j < n → L j ≤ 1048576) := hL
  have HRV : Hid (∀ i, i < n → ∃ g, w1.cell? ⟨R, i, none⟩ = some (.slice (some ⟨g, 0, none⟩) (L i) (L i)) ∧ ValRow w1 g (L i) (Z i) ∧ g < V ∧ R < V) := hRV
  clear hL hRV
  go_wp2
  go_loopw [18] (fun i wr => ∃ k : Nat, k ≤ n ∧ i = .int .i64 k ∧ (∃ ao c, OutIs wr V k ao c L Z) ∧ Below V w1 wr) (fun i _ => n - (intOf i).toNat)
  case atStart => exact ⟨0, Nat.zero_le _, rfl, ⟨none, 0, hO1⟩, Below.refl _ _⟩
  case round =>
    obtain ⟨k, hk, rfl, ⟨ao, c, hO⟩, hb⟩ := hrel
    clear hO1 e7
    by_cases hlt : k < n
    · obtain ⟨g, hc, hv, hgV, hRV⟩ := HRV.out k hlt
      have hc1 : wr.cell? ⟨R, k, none⟩ = some (.slice (some ⟨g, 0, none⟩) (L k) (L k)) := (hb.cell (p := ⟨R, k, none⟩) hRV).trans hc
      have hv1 := hv.under hgV hb
      have hlk := HL.out k hlt
      clear hc hv
      go_wp2_with fail
      refine (closure43_any V g (L k) k ao c L Z _ hO hv1 hlk (by omega)).mono ?_
      rintro e w2 ⟨h, c6, rfl, hO2, hb2⟩
      go_wp2
      go_roundw
      case rel => exact ⟨k + 1, by omega, by go_num, ⟨_, _, hO2⟩, hb.trans hb2⟩
      case measure => simp [intOf]; omega
    · obtain rfl : k = n := by omega
      have hTr : TableIs wr T c0 R k 1 := (hb.block T hTV).trans hT1
      obtain ⟨d1, d3, d4, d5, d7, z5⟩ := hTr.cells
      go_wp2
      refine leaves_cons (f := 59) (args := #[.pointer (some ⟨T, 1, none⟩)]) (by simp) (by simp [go_sem]) ?_
      refine (runlock_deferred Try.rwRLib T 1 1 _ _ .returning _ d1 d3 d5 z5 (by rw [wrap32_back]; decide)).mono ?_
      rintro e u' w'' ⟨rfl, rfl, hw2⟩
      rw [wrap32_back] at hw2
      subst hw2
      exact ⟨_, results_none rfl _ _ _, ao, c, rfl, hO.besideT hTr hTV 5 _, below_locked HT.out (by rw [← HW1.out]; exact hb) hTV⟩

end Go.Proofs.Qxb6609098a
