/-
  zzB1Bounds and ZZnewRuleForm: new rows of structs, by the names that they bear.
-/
import Derived.Test.Qxb6608971aEqual
import Derived.Deep.OwnRows
namespace Go.Proofs.Qxb6608971a
open Go.RowKit

theorem Try.info70 : (Try.prog.info? 70).map (fun i => (i.zero, i.size, i.bytes)) = some (some (.agg #[.string ByteArray.empty, .int .i64 0]), 2, 24) := by kernel_rfl
theorem Try.info74 : (Try.prog.info? 74).map (fun i => (i.zero, i.size, i.bytes)) = some (some (.agg #[.string ByteArray.empty, .int .i64 0, .bool false]), 3, 32) := by kernel_rfl

/-- make of n elements, of whatever number of cells: the block bears a name, its cells are all there and not frozen. -/
theorem make_any {P : Program} (t e : TypeId) (z : Value) (size bytes : Nat) (ht : P.underlying t = some (.slice e)) (hinfo : (P.info? e).map (fun i => (i.zero, i.size, i.bytes)) = some (some z, size, bytes))
    (n : Nat) (hbytes : bytes * n ≤ 281474976710656) (h63 : n ≤ 9223372036854775807) :
    ∃ o : Obj, (∀ w, (Instr.makeSlice t (.int .i64 (n : Int)) (.int .i64 (n : Int))).run P w = .ok (.slice (some ⟨w.heap.size, 0, none⟩) n n) (w.alloc o)) ∧ ∀ w : World, ∃ f, (w.alloc o).rowIs w.heap.size e (n * size) f := by
  obtain ⟨i, hi, hzz⟩ := Option.map_eq_some_iff.1 hinfo
  simp only [Prod.mk.injEq] at hzz
  obtain ⟨hz, hs, hb⟩ := hzz
  have hb' : (i.bytes : Int) * (n : Int) ≤ 281474976710656 := by
    have h : ((i.bytes * n : Nat) : Int) ≤ 281474976710656 := by rw [hb]; omega
    rwa [Int.natCast_mul] at h
  refine ⟨.cells (madeCells z.cells (n * size)) e, fun w => ?_, fun w => ?_⟩
  · have hr := run_make (P := P) w t e i z ht hi hz .i64 .i64 n n (by omega) (Int.le_refl _) hb' (by omega)
    simp only [Int.toNat_natCast, hs] at hr
    exact hr
  · refine ⟨fun i => (madeCells z.cells (n * size))[i]!, ?_⟩
    have := World.rowIs_alloc w (madeCells z.cells (n * size)) e (fun i => (madeCells z.cells (n * size))[i]!) (fun i hi => by simp [getElem!_pos, hi])
    rwa [size_madeCells] at this

/-- Block b has room for n Bounds, of which the first k bear the names S. -/
def BoundTo (w : World) (b n k : Nat) (S : Nat → ByteArray) : Prop :=
  ∃ f, w.rowIs b 70 (n * 2) f ∧ ∀ i, i < k → f (i * 2) = .string (S i) ∧ ∃ p, f (i * 2 + 1) = .int .i64 p

theorem boundTo_step {w : World} {b n k : Nat} {S : Nat → ByteArray} {p : Int} (h : BoundTo w b n k S) : BoundTo (((w.setCell ⟨b, k * 2, none⟩ (.string (S k))).setCell ⟨b, k * 2 + 1, none⟩ (.int .i64 p)).drew) b n (k + 1) S := by
  obtain ⟨f, hr, hf⟩ := h
  refine ⟨_, ((hr.set (k * 2) (.string (S k))).set (k * 2 + 1) (.int .i64 p)).drew, fun i hi => ?_⟩
  by_cases e : i = k
  · subst e
    refine ⟨?_, p, ?_⟩
    · simp
    · simp
  · obtain ⟨h1, q, h2⟩ := hf i (by omega)
    refine ⟨?_, q, ?_⟩
    · show (if i * 2 = k * 2 + 1 then _ else if i * 2 = k * 2 then _ else f (i * 2)) = _
      rw [if_neg (by omega), if_neg (by omega)]; exact h1
    · show (if i * 2 + 1 = k * 2 + 1 then _ else if i * 2 + 1 = k * 2 then _ else f (i * 2 + 1)) = _
      rw [if_neg (by omega), if_neg (by omega)]; exact h2

set_option maxHeartbeats 400000 in
theorem bounds_any (a a2 : Option Addr) (n c c2 : Nat) (S : Nat → ByteArray) (Z : Nat → Int) (w : World) (hS : StrRow w a n S) (hZ : IntRow w a2 n Z) (hsm : n ≤ 70000) :
    Calls Try.prog 14 #[.slice a n c, .slice a2 n c2] w fun e w' => e = .returned (.slice (some ⟨w.heap.size, 0, none⟩) n n) ∧ Below w.heap.size w w' ∧ BoundTo w' w.heap.size n n S := by
  obtain ⟨_, hS⟩ := hS
  obtain ⟨_, hZ⟩ := hZ
  obtain ⟨o, hmk, ho⟩ := make_any 34 70 _ 2 24 Try.underlying34 Try.info70 n (by omega) (by omega)
  obtain ⟨f0, hf0⟩ := ho w
  have hR0 : Below w.heap.size w (w.alloc o) ∧ BoundTo (w.alloc o) w.heap.size n 0 S := ⟨(Below.refl _ _).alloc (Nat.le_refl _) _, f0, hf0, fun i hi => by omega⟩
  clear ho hf0
  have HR : Hid (Below w.heap.size w (w.alloc o) ∧ BoundTo (w.alloc o) w.heap.size n 0 S) := hR0
  clear hR0
  go_enter Try.func14, Try.ntmps14
  go_wp2
  go_loopw [6] (fun i wr => ∃ k : Nat, k ≤ n ∧ i = .int .i64 k ∧ Below w.heap.size w wr ∧ BoundTo wr w.heap.size n k S) (fun i _ => n - (intOf i).toNat)
  case atStart => exact ⟨0, Nat.zero_le _, rfl, HR.out⟩
  case round =>
    clear hmk HR
    obtain ⟨k, hk, rfl, hb, hr⟩ := hrel
    by_cases hlt : k < n
    · obtain ⟨b, off, rfl, _, hc⟩ := hS.resolve_left (by omega)
      obtain ⟨b', off', rfl, _, hc'⟩ := hZ.resolve_left (by omega)
      have h1 := cell_later hb (hc k hlt).1
      have h2 := cell_later hb (hc' k hlt)
      clear hc hc' hS hZ
      have hr0 := hr
      obtain ⟨f, hrow, _⟩ := hr0
      have h3 := hrow.cell (i := k * 2) (by omega)
      have h4 := hrow.cell (i := k * 2 + 1) (by omega)
      have h5 := hrow.frozen (k * 2)
      have h6 := hrow.frozen (k * 2 + 1)
      have hlti : (k : Int) < (n : Int) := by omega
      clear hrow
      go_wp2
      go_region
      all_goals go_wp2
      all_goals go_roundw
      case rel => exact ⟨k + 1, by omega, by go_num, ((hb.setCell (Nat.le_refl _) _).setCell (Nat.le_refl _) _).drew, boundTo_step hr⟩
      case measure => simp [intOf]; omega
    · go_wp2
      go_ret
      obtain rfl : k = n := by omega
      exact ⟨rfl, hb, hr⟩

/-- Block b has room for n formLimits, of which the first k bear the names S. -/
def FormTo (w : World) (b n k : Nat) (S : Nat → ByteArray) : Prop :=
  ∃ f, w.rowIs b 74 (n * 3) f ∧ ∀ i, i < k → f (i * 3) = .string (S i) ∧ (∃ p, f (i * 3 + 1) = .int .i64 p) ∧ ∃ p, f (i * 3 + 2) = .bool p

theorem formTo_step {w : World} {b n k : Nat} {S : Nat → ByteArray} {p : Int} {u : Bool} (h : FormTo w b n k S) : FormTo (((w.setCell ⟨b, k * 3, none⟩ (.string (S k))).setCell ⟨b, k * 3 + 1, none⟩ (.int .i64 p)).setCell ⟨b, k * 3 + 2, none⟩ (.bool u)) b n (k + 1) S := by
  obtain ⟨f, hr, hf⟩ := h
  refine ⟨_, ((hr.set (k * 3) (.string (S k))).set (k * 3 + 1) (.int .i64 p)).set (k * 3 + 2) (.bool u), fun i hi => ?_⟩
  by_cases e : i = k
  · subst e
    exact ⟨by simp, ⟨p, by simp⟩, u, by simp⟩
  · obtain ⟨h1, ⟨q, h2⟩, v, h3⟩ := hf i (by omega)
    refine ⟨?_, ⟨q, ?_⟩, v, ?_⟩
    · show (if i * 3 = k * 3 + 2 then _ else if i * 3 = k * 3 + 1 then _ else if i * 3 = k * 3 then _ else f (i * 3)) = _
      rw [if_neg (by omega), if_neg (by omega), if_neg (by omega)]; exact h1
    · show (if i * 3 + 1 = k * 3 + 2 then _ else if i * 3 + 1 = k * 3 + 1 then _ else if i * 3 + 1 = k * 3 then _ else f (i * 3 + 1)) = _
      rw [if_neg (by omega), if_neg (by omega), if_neg (by omega)]; exact h2
    · show (if i * 3 + 2 = k * 3 + 2 then _ else if i * 3 + 2 = k * 3 + 1 then _ else if i * 3 + 2 = k * 3 then _ else f (i * 3 + 2)) = _
      rw [if_neg (by omega), if_neg (by omega), if_neg (by omega)]; exact h3

set_option maxHeartbeats 400000 in
theorem newRuleForm_any (a : Option Addr) (n c : Nat) (S : Nat → ByteArray) (w : World) (hS : StrRow w a n S) (hsm : n ≤ 70000) :
    Calls Try.prog 16 #[.slice a n c] w fun e w' => ∃ f, e = .returned (.pointer (some ⟨f, 0, none⟩)) ∧ Below w.heap.size w w' ∧ w'.cell? ⟨f, 2, none⟩ = some (.slice (some ⟨w.heap.size, 0, none⟩) n n) ∧ FormTo w' w.heap.size n n S := by
  obtain ⟨_, hS⟩ := hS
  obtain ⟨o, hmk, ho⟩ := make_any 72 74 _ 3 32 Try.underlying72 Try.info74 n (by omega) (by omega)
  obtain ⟨f0, hf0⟩ := ho w
  have hR0 : Below w.heap.size w (w.alloc o) ∧ FormTo (w.alloc o) w.heap.size n 0 S := ⟨(Below.refl _ _).alloc (Nat.le_refl _) _, f0, hf0, fun i hi => by omega⟩
  clear ho hf0
  have HR : Hid (Below w.heap.size w (w.alloc o) ∧ FormTo (w.alloc o) w.heap.size n 0 S) := hR0
  clear hR0
  go_enter Try.func16, Try.ntmps16
  go_wp2
  go_loopw [4] (fun i wr => ∃ k : Nat, k ≤ n ∧ i = .int .i64 k ∧ Below w.heap.size w wr ∧ FormTo wr w.heap.size n k S) (fun i _ => n - (intOf i).toNat)
  case atStart => exact ⟨0, Nat.zero_le _, rfl, HR.out⟩
  case round =>
    clear hmk HR
    obtain ⟨k, hk, rfl, hb, hr⟩ := hrel
    by_cases hlt : k < n
    · obtain ⟨b, off, rfl, _, hc⟩ := hS.resolve_left (by omega)
      have h1 := cell_later hb (hc k hlt).1
      clear hc hS
      have hr0 := hr
      obtain ⟨f, hrow, _⟩ := hr0
      have h3 := hrow.cell (i := k * 3) (by omega)
      have h4 := hrow.cell (i := k * 3 + 1) (by omega)
      have h4' := hrow.cell (i := k * 3 + 2) (by omega)
      have h5 := hrow.frozen (k * 3)
      have h6 := hrow.frozen (k * 3 + 1)
      have h6' := hrow.frozen (k * 3 + 2)
      have hlti : (k : Int) < (n : Int) := by omega
      clear hrow
      go_wp2
      go_roundw
      case rel => exact ⟨k + 1, by omega, by go_num, ((hb.setCell (Nat.le_refl _) _).setCell (Nat.le_refl _) _).setCell (Nat.le_refl _) _, formTo_step hr⟩
      case measure => simp [intOf]; omega
    · clear hS
      go_wp2
      go_ret
      obtain rfl : k = n := by omega
      obtain ⟨f, hrow, hf⟩ := hr
      exact ⟨wr.heap.size, rfl, hb.alloc hb.size _, by simp [go_sem], f, hrow.alloc _, hf⟩

end Go.Proofs.Qxb6608971a
