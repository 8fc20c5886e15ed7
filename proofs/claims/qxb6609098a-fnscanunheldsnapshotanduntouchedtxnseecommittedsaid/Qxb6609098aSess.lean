/-
  A plain session: ZZnewScanSession, (*Session).scan with no transaction and no snapshot, ZZscanRows.
-/
import Derived.Test.Qxb6609098aScanT
namespace Go.Proofs.Qxb6609098a
open Go.RowKit

theorem checkKey_step (b : Bool) (n : Nat) (x : Option Addr) (W : World) : (Instr.checkKey b (n + 1) 54 (.pointer x)).run Try.prog W = .ok () W := by
  simp [Instr.checkKey, Try.runUnderlying54]
theorem checkKey_ptr (b : Bool) (x : Option Addr) (W : World) : (Instr.checkKey b 10000 54 (.pointer x)).run Try.prog W = .ok () W := checkKey_step b 9999 x W

theorem look_nil (T : Nat) (W : World) : (Instr.lookup 106 (.map none) (.pointer (some ⟨T, 0, none⟩)) true).run Try.prog W = .ok (.tuple #[.agg #[.pointer none, .int .i64 0], .bool false]) W := by
  simp [Instr.lookup, Try.runUnderlying106, checkKey_ptr, Instr.findKey, Instr.findNow, Try.runUnderlying54, Try.zeroValue71]

/-- A session: its locks, its transaction, its snapshots. -/
def SessAt (w : World) (S : Nat) (lk tx sn : Value) : Prop :=
  w.cell? ⟨S, 35, none⟩ = some lk ∧ w.cell? ⟨S, 36, none⟩ = some tx ∧ w.cell? ⟨S, 40, none⟩ = some sn ∧ w.frozen? ⟨S, 36, none⟩ = false ∧ w.frozen? ⟨S, 40, none⟩ = false

theorem SessAt.lt {w : World} {S : Nat} {lk tx sn : Value} (h : SessAt w S lk tx sn) : S < w.heap.size := World.block_lt_of_cell? _ _ h.1
theorem SessAt.later {w w' : World} {S : Nat} {lk tx sn : Value} (h : SessAt w S lk tx sn) (hb : Below w.heap.size w w') : SessAt w' S lk tx sn := by
  have hl := h.lt
  obtain ⟨h1, h2, h3, h4, h5⟩ := h
  exact ⟨cell_later hb h1, cell_later hb h2, cell_later hb h3, (hb.frozen (p := ⟨S, 36, none⟩) hl).trans h4, (hb.frozen (p := ⟨S, 40, none⟩) hl).trans h5⟩

set_option maxRecDepth 10000 in
set_option maxHeartbeats 1000000 in
theorem newSession_any (H : Nat) (w : World) : Calls Try.prog 28 #[.pointer (some ⟨H, 0, none⟩)] w fun e w' => e = .returned (.pointer (some ⟨w.heap.size, 0, none⟩)) ∧ SessAt w' w.heap.size (.pointer (some ⟨H, 0, none⟩)) (.pointer none) (.map none) ∧ Below w.heap.size w w' := by
  go_enter Try.func28, Try.ntmps28
  go_wp2
  go_ret
  refine ⟨rfl, ⟨?_, ?_, ?_, ?_, ?_⟩, (Below.refl _ _).alloc (Nat.le_refl _) _⟩ <;> simp [go_sem]

theorem OutIs.later {w w' : World} {V k : Nat} {ao : Option Addr} {c : Nat} {L : Nat → Nat} {Z : Nat → Nat → Int} (h : OutIs w V k ao c L Z) (hb : Below w.heap.size w w') : OutIs w' V k ao c L Z := by
  obtain ⟨h1, xs, h2, h3⟩ := h
  refine ⟨(hb.block V (Array.getElem?_eq_some_iff.1 h1).1).trans h1, xs, h2.kept (below_grown (r := none) hb) (by
      cases h : Value.ownBlock (.slice ao k c) with
      | none => exact .inl rfl
      | some j => exact .inr (by simp)), fun i hi => ?_⟩
  obtain ⟨g, c', h4, h5⟩ := h3 i hi
  exact ⟨g, c', h4, h5.later hb⟩

set_option maxRecDepth 10000 in
set_option maxHeartbeats 2000000 in
theorem sessionScan_plain (S T R n V : Nat) (lk : Value) (L : Nat → Nat) (Z : Nat → Nat → Int) (w0 w : World) (hS : SessAt w S lk (.pointer none) (.map none)) (h0V : w0.heap.size ≤ V) (hT0 : TableAt w0 T R n) (hR0 : VRows w0 R n n L Z) (hb0 : Below w0.heap.size w0 w) (hO : OutIs w V 0 none 0 L Z) (hL : ∀ j, j < n → L j ≤ 1048576) (hn : n ≤ 65536) :
    Calls Try.prog 42 #[.pointer (some ⟨S, 0, none⟩), .pointer (some ⟨T, 0, none⟩), .func (.func 43) #[] #[.pointer (some ⟨V, 0, none⟩)]] w fun e w' => ∃ ao c, e = .returned (.tuple #[]) ∧ OutIs w' V n ao c L Z ∧ Below V w w' := by
  obtain ⟨d35, d36, d40, z36, z40⟩ := hS
  have hlook := look_nil T
  go_enter Try.func42, Try.ntmps42
  go_wp2_with fail
  refine (tableScan_any T R n V L Z w0 _ h0V hT0 hR0 (hb0.alloc hb0.size _) (hO.later ((Below.refl _ _).alloc (Nat.le_refl _) _)) hL hn).mono ?_
  rintro e w2 ⟨ao, c, rfl, hO2, hb2⟩
  have hVw : V ≤ w.heap.size := Nat.le_of_lt (World.block_lt_of_cell? _ _ hO.cell)
  go_wp2
  go_end0
  exact ⟨ao, c, rfl, hO2, ((Below.refl V w).alloc hVw _).trans hb2⟩

/-- What a scan has handed over: n rows, each with its numbers. -/
def GotRows (w : World) (ao : Option Addr) (n : Nat) (L : Nat → Nat) (Z : Nat → Nat → Int) : Prop :=
  n = 0 ∨ ∃ h, ao = some ⟨h, 0, none⟩ ∧ ∀ i, i < n → ∃ g c', w.cell? ⟨h, i, none⟩ = some (.slice (some ⟨g, 0, none⟩) (L i) c') ∧ ValRow w g (L i) (Z i)

theorem GotRows.later {w w' : World} {ao : Option Addr} {n : Nat} {L : Nat → Nat} {Z : Nat → Nat → Int} (h : GotRows w ao n L Z) (hb : Below w.heap.size w w') : GotRows w' ao n L Z := by
  rcases h with h0 | ⟨h, rfl, hc⟩
  · exact .inl h0
  · refine .inr ⟨h, rfl, fun i hi => ?_⟩
    obtain ⟨g, c', h1, h2⟩ := hc i hi
    exact ⟨g, c', cell_later hb h1, h2.later hb⟩

theorem OutIs.got {w : World} {V n : Nat} {ao : Option Addr} {c : Nat} {L : Nat → Nat} {Z : Nat → Nat → Int} (h : OutIs w V n ao c L Z) : GotRows w ao n L Z := by
  obtain ⟨_, xs, hown, hxs⟩ := h
  by_cases h0 : n = 0
  · exact .inl h0
  rcases hown.2 with ⟨_, h1⟩ | ⟨g, cap, cur, hv, _, _⟩
  · exact absurd h1 h0
  simp only [Value.slice.injEq] at hv
  obtain ⟨rfl, _, rfl⟩ := hv
  refine .inr ⟨g, rfl, fun i hi => ?_⟩
  obtain ⟨g', c', h1, h2⟩ := hxs i hi
  exact ⟨g', c', by rw [hown.cellAt i (by omega), h1], h2⟩

set_option maxRecDepth 10000 in
set_option maxHeartbeats 1000000 in
/-- ZZscanRows, whatever session's scan hands all rows over. -/
theorem zscan_of (S T n : Nat) (L : Nat → Nat) (Z : Nat → Nat → Int) (w : World)
    (hscan : ∀ w1 : World, Below w.heap.size w w1 → OutIs w1 w.heap.size 0 none 0 L Z →
      Calls Try.prog 42 #[.pointer (some ⟨S, 0, none⟩), .pointer (some ⟨T, 0, none⟩), .func (.func 43) #[] #[.pointer (some ⟨w.heap.size, 0, none⟩)]] w1 fun e w' => ∃ ao c, e = .returned (.tuple #[]) ∧ OutIs w' w.heap.size n ao c L Z ∧ Below w.heap.size w1 w') :
    Calls Try.prog 29 #[.pointer (some ⟨S, 0, none⟩), .pointer (some ⟨T, 0, none⟩)] w fun e w' => ∃ ao c, e = .returned (.slice ao n c) ∧ GotRows w' ao n L Z ∧ Below w.heap.size w w' := by
  have HS : Hid (∀ w1 : World, Below w.heap.size w w1 → OutIs w1 w.heap.size 0 none 0 L Z →
      Calls Try.prog 42 #[.pointer (some ⟨S, 0, none⟩), .pointer (some ⟨T, 0, none⟩), .func (.func 43) #[] #[.pointer (some ⟨w.heap.size, 0, none⟩)]] w1 fun e w' => ∃ ao c, e = .returned (.tuple #[]) ∧ OutIs w' w.heap.size n ao c L Z ∧ Below w.heap.size w1 w') := hscan
  clear hscan
  have hb0 : ∀ o, Below w.heap.size w (w.alloc o) := fun o => (Below.refl _ _).alloc (Nat.le_refl _) _
  have HO : Hid (OutIs (w.alloc (.cells #[.slice none 0 0] 64)) w.heap.size 0 none 0 L Z) := ⟨heap_new _ _, [], World.ownsRow_nil _ _ _ _, fun i hi => by omega⟩
  have HB : Hid (∀ o, Below w.heap.size w (w.alloc o)) := hb0
  clear hb0
  go_enter Try.func29, Try.ntmps29
  go_wp2_with fail
  refine (HS.out _ (HB.out _) HO.out).mono ?_
  rintro e w2 ⟨ao, c, rfl, hO2, hb2⟩
  have hc := hO2.cell
  go_wp2
  go_ret
  exact ⟨ao, c, rfl, hO2.got, (HB.out _).trans hb2⟩

theorem scanRows_plain (S T R n : Nat) (lk : Value) (L : Nat → Nat) (Z : Nat → Nat → Int) (w : World) (hS : SessAt w S lk (.pointer none) (.map none)) (hT : TableAt w T R n) (hR : VRows w R n n L Z) (hL : ∀ j, j < n → L j ≤ 1048576) (hn : n ≤ 65536) :
    Calls Try.prog 29 #[.pointer (some ⟨S, 0, none⟩), .pointer (some ⟨T, 0, none⟩)] w fun e w' => ∃ ao c, e = .returned (.slice ao n c) ∧ GotRows w' ao n L Z ∧ Below w.heap.size w w' :=
  zscan_of S T n L Z w fun w1 hb hO => sessionScan_plain S T R n w.heap.size lk L Z w w1 (hS.later hb) (Nat.le_refl _) hT hR hb hO hL hn

end Go.Proofs.Qxb6609098a
