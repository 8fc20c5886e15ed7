/-
  Seat b6609098a: what the walks are told of slices; worlds that grow beside one block; the leaves: sqltypes.Int, Value.Int, Value.IsNull, Value.Kind.
-/
import Derived.Test.Qxb6609098aProg
import Derived.WalkKit
import Derived.WalkSpells
import Derived.WalkLawsBesides
import Derived.Deep.OwnRows
import Derived.Deep.RegionWith
namespace Go.Proofs.Qxb6609098a
open Go.RowKit

/-- A slice of n numbers. -/
def IntRow (w : World) (a : Option Addr) (n : Nat) (Z : Nat → Int) : Prop :=
  n ≤ maxLen ∧ (n = 0 ∨ ∃ b off, a = some ⟨b, off, none⟩ ∧ b < w.heap.size ∧ ∀ i, i < n → w.cell? ⟨b, off + i, none⟩ = some (.int .i64 (Z i)))

/-- A slice of n bools. -/
def BoolRow (w : World) (a : Option Addr) (n : Nat) (N : Nat → Bool) : Prop :=
  n ≤ maxLen ∧ (n = 0 ∨ ∃ b off, a = some ⟨b, off, none⟩ ∧ b < w.heap.size ∧ ∀ i, i < n → w.cell? ⟨b, off + i, none⟩ = some (.bool (N i)))

theorem IntRow.later {w w' : World} {a : Option Addr} {n : Nat} {Z : Nat → Int} (h : IntRow w a n Z) (hb : Below w.heap.size w w') : IntRow w' a n Z := by
  obtain ⟨hn, h⟩ := h
  refine ⟨hn, ?_⟩
  rcases h with h0 | ⟨b, off, rfl, hlt, hc⟩
  · exact .inl h0
  exact .inr ⟨b, off, rfl, Nat.lt_of_lt_of_le hlt hb.size, fun i hi => cell_later hb (hc i hi)⟩

theorem BoolRow.later {w w' : World} {a : Option Addr} {n : Nat} {Z : Nat → Bool} (h : BoolRow w a n Z) (hb : Below w.heap.size w w') : BoolRow w' a n Z := by
  obtain ⟨hn, h⟩ := h
  refine ⟨hn, ?_⟩
  rcases h with h0 | ⟨b, off, rfl, hlt, hc⟩
  · exact .inl h0
  exact .inr ⟨b, off, rfl, Nat.lt_of_lt_of_le hlt hb.size, fun i hi => cell_later hb (hc i hi)⟩

theorem ret_bool {a b : Bool} (h : a = b) : Ending.returned (.bool a) = .returned (.bool b) := by rw [h]

theorem int_any (x : Int) (w : World) : Calls Try.prog 36 #[.int .i64 x] w fun e w' => e = .returned (.agg #[.int .u8 1, .int .i64 x, .string ⟨#[]⟩]) ∧ w' = w.alloc (.cells #[.int .u8 1, .int .i64 x, .string ⟨#[]⟩] 33) := by
  go_enter Try.func36, Try.ntmps36
  go_wp2
  exact bodyPost_ret (v := .agg #[.int .u8 1, .int .i64 x, .string ⟨#[]⟩]) (by simp [results, Try.results36, go_sem]) rfl ⟨rfl, rfl⟩

theorem vInt_any (kd x : Int) (s : ByteArray) (w : World) : Calls Try.prog 46 #[.agg #[.int .u8 kd, .int .i64 x, .string s]] w fun e w' => e = .returned (.int .i64 x) ∧ w' = w.alloc (.cells #[.int .u8 kd, .int .i64 x, .string s] 33) := by
  go_enter Try.func46, Try.ntmps46
  go_wp2
  go_ret
  exact ⟨rfl, rfl⟩

theorem vNull_any (kd x : Int) (s : ByteArray) (w : World) : Calls Try.prog 47 #[.agg #[.int .u8 kd, .int .i64 x, .string s]] w fun e w' => e = .returned (.bool (kd == 0)) ∧ w' = w.alloc (.cells #[.int .u8 kd, .int .i64 x, .string s] 33) := by
  go_enter Try.func47, Try.ntmps47
  go_wp2
  go_ret
  exact ⟨rfl, rfl⟩

theorem vKind_any (kd x : Int) (s : ByteArray) (w : World) : Calls Try.prog 45 #[.agg #[.int .u8 kd, .int .i64 x, .string s]] w fun e w' => e = .returned (.int .u8 kd) ∧ w' = w.alloc (.cells #[.int .u8 kd, .int .i64 x, .string s] 33) := by
  go_enter Try.func45, Try.ntmps45
  go_wp2
  go_ret
  exact ⟨rfl, rfl⟩

theorem grown_trans {a b c : World} {r : Option Nat} (h : a.grownBy b r) (k : b.grownBy c r) : a.grownBy c r :=
  ⟨k.os.trans h.os, k.tape.trans h.tape, k.output.trans h.output, Nat.le_trans h.size k.size, fun i hi hr => (k.block i (Nat.lt_of_lt_of_le hi h.size) hr).trans (h.block i hi hr)⟩

theorem grown_set {a b : World} {g o : Nat} (h : a.grownBy b (some g)) (v : Value) : a.grownBy (b.setCell ⟨g, o, none⟩ v) (some g) :=
  ⟨h.os, h.tape, h.output, by simpa [World.setCell] using h.size, fun i hi hr => (Below.heap_setCell _ _ _ _ (fun e => hr (by rw [e]))).trans (h.block i hi hr)⟩

theorem grown_alloc {a b : World} {r : Option Nat} (h : a.grownBy b r) (o : Obj) : a.grownBy (b.alloc o) r := grown_trans h (World.grownBy_alloc b o r)

theorem grown_drew {a b : World} {r : Option Nat} (h : a.grownBy b r) : a.grownBy b.drew r := ⟨h.os, h.tape, h.output, h.size, h.block⟩

theorem below_grown {a b : World} {r : Option Nat} (h : Below a.heap.size a b) : a.grownBy b r := ⟨h.os, h.tape, h.output, h.size, fun i hi _ => h.block i hi⟩

/-- The block of one sum: its total and whether there was a value. -/
def SumAt (w : World) (B : Nat) (t : Int) (u : Bool) : Prop := w.rowIs B 74 2 (fun i => if i = 0 then .int .i64 t else .bool u)

theorem SumAt.later {w w' : World} {B : Nat} {t : Int} {u : Bool} (h : SumAt w B t u) (hb : Below w.heap.size w w') : SumAt w' B t u := World.rowIs.of_block h (hb.block _ (World.rowIs.lt h))
theorem SumAt.beside {w w' : World} {B C : Nat} {t : Int} {u : Bool} (h : SumAt w B t u) (hb : w.grownBy w' (some C)) (hne : B ≠ C) : SumAt w' B t u :=
  World.rowIs.of_block h (hb.block _ (World.rowIs.lt h) (fun e => hne (Option.some.inj e)))

theorem SumAt.cells {w : World} {B : Nat} {t : Int} {u : Bool} (h : SumAt w B t u) : w.cell? ⟨B, 0, none⟩ = some (.int .i64 t) ∧ w.cell? ⟨B, 1, none⟩ = some (.bool u) ∧ w.frozen? ⟨B, 0, none⟩ = false ∧ w.frozen? ⟨B, 1, none⟩ = false ∧ B < w.heap.size :=
  ⟨World.rowIs.cell h (by omega), World.rowIs.cell h (by omega), World.rowIs.frozen h 0, World.rowIs.frozen h 1, World.rowIs.lt h⟩

theorem SumAt.store {w : World} {B : Nat} {t t' : Int} {u u' : Bool} (h : SumAt w B t u) : SumAt ((w.setCell ⟨B, 0, none⟩ (.int .i64 t')).setCell ⟨B, 1, none⟩ (.bool u')) B t' u' := by
  have h2 := (World.rowIs.set h 0 (.int .i64 t')).set 1 (.bool u')
  refine World.rowIs.congr h2 (fun i hi => ?_)
  match i, hi with
  | 0, _ => rfl
  | 1, _ => rfl

set_option maxHeartbeats 400000 in
theorem add_null (B : Nat) (x : Int) (s : ByteArray) (w : World) :
    Calls Try.prog 35 #[.pointer (some ⟨B, 0, none⟩), .agg #[.int .u8 0, .int .i64 x, .string s]] w fun e w' => e = .returned (.tuple #[]) ∧ Below w.heap.size w w' := by
  go_enter Try.func35, Try.ntmps35
  go_wp2_with (go_at_call 47; refine (vNull_any _ _ _ _).mono ?_; rintro e w1 ⟨rfl, rfl⟩)
  exact bodyPost_ret (v := .tuple #[]) (results_none Try.results35 _ _ _) rfl ⟨rfl, ((Below.refl _ _).alloc (Nat.le_refl _) _).alloc (by simp) _⟩

set_option maxHeartbeats 400000 in
theorem add_int (B : Nat) (t x : Int) (u : Bool) (s : ByteArray) (w : World) (h : SumAt w B t u) :
    Calls Try.prog 35 #[.pointer (some ⟨B, 0, none⟩), .agg #[.int .u8 1, .int .i64 x, .string s]] w fun e w' => e = .returned (.tuple #[]) ∧ SumAt w' B (wrap64 (t + x)) true ∧ w.grownBy w' (some B) := by
  obtain ⟨h0, h1, f0, f1, hlt⟩ := h.cells
  have hlt1 : B < w.heap.size + 1 := by omega
  have hlt2 : B < w.heap.size + 1 + 1 := by omega
  go_enter Try.func35, Try.ntmps35
  go_wp2_with (go_at_call 47; refine (vNull_any _ _ _ _).mono ?_; rintro e w1 ⟨rfl, rfl⟩)
  go_region_with (go_at_call 46; refine (vInt_any _ _ _ _).mono ?_; rintro e w1 ⟨rfl, rfl⟩)
  all_goals go_wp2
  all_goals go_end0
  all_goals exact ⟨rfl, (((h.store.alloc _).alloc _).alloc _).drew, grown_drew (grown_alloc (grown_alloc (grown_alloc (grown_set (grown_set (World.grownBy.refl w _) _) _) _) _) _)⟩

end Go.Proofs.Qxb6609098a
