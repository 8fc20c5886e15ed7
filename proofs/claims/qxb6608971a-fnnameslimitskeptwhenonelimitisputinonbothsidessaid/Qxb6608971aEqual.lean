/-
  slices.EqualFunc with the closure of namesLimits, namesLimits, ZZnamesLimits, zzB1SameNames: each computes "the lengths agree and the names agree one for one".
-/
import Derived.Test.Qxb6608971aBase
namespace Go.Proofs.Qxb6608971a
open Go.RowKit
theorem Try.cells70 : Try.prog.cellsOf 70 = 2 := by kernel_rfl
theorem Try.cells74 : Try.prog.cellsOf 74 = 3 := by kernel_rfl
set_option maxHeartbeats 400000 in
theorem closure_any (s t : ByteArray) (p q : Int) (u : Bool) (w : World) :
    Calls Try.prog 26 #[.agg #[.string s, .int .i64 p], .agg #[.string t, .int .i64 q, .bool u]] w fun e w' => e = .returned (.bool (s.toList == t.toList)) ∧ Below w.heap.size w w' := by
  go_enter Try.func26, Try.ntmps26
  go_wp2
  go_ret
  exact ⟨rfl, ((Below.refl _ _).alloc (Nat.le_refl _) _).alloc (by simp) _⟩

def sameTo (S T : Nat → ByteArray) : Nat → Bool
  | 0 => true
  | k + 1 => sameTo S T k && ((S k).toList == (T k).toList)

theorem sameTo_no {S T : Nat → ByteArray} {k n : Nat} (hk : k < n) (h : ((S k).toList == (T k).toList) = false) : sameTo S T n = false := by
  induction n with
  | zero => omega
  | succ n ih =>
    rw [sameTo]
    by_cases e : k = n
    · subst e; rw [h]; simp
    · rw [ih (by omega)]; rfl

/-- A slice of n Bounds (two cells each): their names. -/
def BoundRow (w : World) (a : Option Addr) (n : Nat) (S : Nat → ByteArray) : Prop :=
  n = 0 ∨ ∃ b off, a = some ⟨b, off, none⟩ ∧ ∀ i, i < n → w.cell? ⟨b, off + i * 2, none⟩ = some (.string (S i)) ∧ ∃ p, w.cell? ⟨b, off + i * 2 + 1, none⟩ = some (.int .i64 p)

/-- A slice of n formLimits (three cells each): their names. -/
def FormRow (w : World) (a : Option Addr) (n : Nat) (S : Nat → ByteArray) : Prop :=
  n = 0 ∨ ∃ b off, a = some ⟨b, off, none⟩ ∧ ∀ i, i < n → w.cell? ⟨b, off + i * 3, none⟩ = some (.string (S i)) ∧ (∃ p, w.cell? ⟨b, off + i * 3 + 1, none⟩ = some (.int .i64 p)) ∧ ∃ p, w.cell? ⟨b, off + i * 3 + 2, none⟩ = some (.bool p)

theorem ret_bool {a b : Bool} (h : a = b) : Ending.returned (.bool a) = .returned (.bool b) := by rw [h]

set_option maxHeartbeats 400000 in
theorem equalFunc_any (a a' : Option Addr) (n c n' c' : Nat) (S T : Nat → ByteArray) (w : World) (hn : n ≤ maxLen) (hn' : n' ≤ maxLen) (hS : BoundRow w a n S) (hT : FormRow w a' n' T) :
    Calls Try.prog 25 #[.slice a n c, .slice a' n' c', .func (.func 26) #[] #[]] w fun e w' => e = .returned (.bool (decide (n = n') && sameTo S T n)) ∧ Below w.heap.size w w' := by
  unfold maxLen at hn hn'
  by_cases hne : n = n'
  · subst hne
    go_enter Try.func25, Try.ntmps25
    go_wp2
    go_loopw [17] (fun i wr => ∃ k : Nat, k ≤ n ∧ i = .int .i64 k ∧ sameTo S T k = true ∧ Below w.heap.size w wr) (fun i _ => n - (intOf i).toNat)
    case atStart => exact ⟨0, Nat.zero_le _, rfl, rfl, Below.refl _ _⟩
    case round =>
      obtain ⟨k, hk, rfl, hs, hb⟩ := hrel
      have HS : Hid (sameTo S T k = true) := hs
      clear hs
      by_cases hlt : k < n
      · obtain ⟨b, off, rfl, hc⟩ := hS.resolve_left (by omega)
        obtain ⟨b', off', rfl, hc'⟩ := hT.resolve_left (by omega)
        obtain ⟨h1, p, h2⟩ := hc k hlt
        obtain ⟨h3, ⟨q, h4⟩, u, h5⟩ := hc' k hlt
        clear hc hc' hS hT
        replace h1 := cell_later hb h1
        replace h2 := cell_later hb h2
        replace h3 := cell_later hb h3
        replace h4 := cell_later hb h4
        replace h5 := cell_later hb h5
        have hlt1 := World.block_lt_of_cell? _ _ h1
        have hlt3 := World.block_lt_of_cell? _ _ h3
        cases hq : ((S k).toList == (T k).toList)
        · go_wp2_with (go_at_call 26; refine (closure_any _ _ _ _ _ _).mono ?_; rintro e w1 ⟨rfl, hb1⟩)
          go_ret
          refine ⟨ret_bool ?_, ?_⟩
          · rw [sameTo_no hlt hq]; simp
          · exact ((hb.alloc hb.size _).alloc (Nat.le_trans hb.size (by simp)) _).trans (hb1.mono (Nat.le_trans hb.size (by simp; omega)))
        · go_wp2_with (go_at_call 26; refine (closure_any _ _ _ _ _ _).mono ?_; rintro e w1 ⟨rfl, hb1⟩)
          go_roundw
          case rel => exact ⟨k + 1, by omega, by go_num, by rw [sameTo, HS.out, hq]; rfl, ((hb.alloc hb.size _).alloc (Nat.le_trans hb.size (by simp)) _).trans (hb1.mono (Nat.le_trans hb.size (by simp; omega)))⟩
          case measure => simp [intOf]; omega
      · go_wp2
        go_ret
        refine ⟨ret_bool ?_, hb⟩
        obtain rfl : k = n := by omega
        rw [HS.out]; simp
  · go_enter Try.func25, Try.ntmps25
    go_wp2
    go_ret
    refine ⟨ret_bool ?_, Below.refl _ _⟩
    simp [hne]

theorem namesLimits_any (f : Nat) (a a' : Option Addr) (n c n' c' : Nat) (S T : Nat → ByteArray) (w : World) (hn : n ≤ maxLen) (hn' : n' ≤ maxLen) (hS : BoundRow w a n S) (hT : FormRow w a' n' T)
    (hf : w.cell? ⟨f, 2, none⟩ = some (.slice a' n' c')) :
    Calls Try.prog 23 #[.pointer (some ⟨f, 0, none⟩), .slice a n c] w fun e w' => e = .returned (.bool (decide (n = n') && sameTo S T n)) ∧ Below w.heap.size w w' := by
  go_enter Try.func23, Try.ntmps23
  go_wp2_with (go_at_call 25; refine (equalFunc_any _ _ _ _ _ _ S T _ hn hn' hS hT).mono ?_; rintro e w1 ⟨rfl, hb1⟩)
  go_ret
  exact ⟨rfl, hb1⟩
theorem zNamesLimits_any (f : Nat) (a a' : Option Addr) (n c n' c' : Nat) (S T : Nat → ByteArray) (w : World) (hn : n ≤ maxLen) (hn' : n' ≤ maxLen) (hS : BoundRow w a n S) (hT : FormRow w a' n' T)
    (hf : w.cell? ⟨f, 2, none⟩ = some (.slice a' n' c')) :
    Calls Try.prog 15 #[.pointer (some ⟨f, 0, none⟩), .slice a n c] w fun e w' => e = .returned (.bool (decide (n = n') && sameTo S T n)) ∧ Below w.heap.size w w' := by
  go_enter Try.func15, Try.ntmps15
  go_wp2_with (go_at_call 23; refine (namesLimits_any f a a' n c n' c' S T _ hn hn' hS hT hf).mono ?_; rintro e w1 ⟨rfl, hb1⟩)
  go_ret
  exact ⟨rfl, hb1⟩
set_option maxHeartbeats 400000 in
theorem sameNames_any (a a' : Option Addr) (n c n' c' : Nat) (S T : Nat → ByteArray) (w : World) (hS : StrRow w a n S) (hT : StrRow w a' n' T) :
    Calls Try.prog 17 #[.slice a n c, .slice a' n' c'] w fun e w' => e = .returned (.bool (decide (n = n') && sameTo S T n)) ∧ Below w.heap.size w w' := by
  obtain ⟨hn, hS⟩ := hS
  obtain ⟨hn', hT⟩ := hT
  unfold maxLen at hn hn'
  by_cases hne : n = n'
  · subst hne
    go_enter Try.func17, Try.ntmps17
    go_wp2
    go_loopw [5] (fun i wr => ∃ k : Nat, k ≤ n ∧ i = .int .i64 k ∧ sameTo S T k = true ∧ Below w.heap.size w wr) (fun i _ => n - (intOf i).toNat)
    case atStart => exact ⟨0, Nat.zero_le _, rfl, rfl, Below.refl _ _⟩
    case round =>
      obtain ⟨k, hk, rfl, hs, hb⟩ := hrel
      have HS : Hid (sameTo S T k = true) := hs
      clear hs
      by_cases hlt : k < n
      · obtain ⟨b, off, rfl, _, hc⟩ := hS.resolve_left (by omega)
        obtain ⟨b', off', rfl, _, hc'⟩ := hT.resolve_left (by omega)
        obtain ⟨h1, _⟩ := hc k hlt
        obtain ⟨h2, _⟩ := hc' k hlt
        clear hc hc' hS hT
        replace h1 := cell_later hb h1
        replace h2 := cell_later hb h2
        have hlti : (k : Int) < (n : Int) := by omega
        cases hq : ((S k).toList == (T k).toList)
        · go_wp2
          go_region
          all_goals go_wp2
          all_goals go_ret
          all_goals refine ⟨ret_bool ?_, hb.drew⟩
          all_goals rw [sameTo_no hlt hq]; simp
        · go_wp2
          go_region
          all_goals go_wp2
          all_goals go_roundw
          case rel => exact ⟨k + 1, by omega, by go_num, by rw [sameTo, HS.out, hq]; rfl, hb.drew⟩
          case measure => simp [intOf]; omega
      · go_wp2
        go_ret
        refine ⟨ret_bool ?_, hb⟩
        obtain rfl : k = n := by omega
        rw [HS.out]; simp
  · go_enter Try.func17, Try.ntmps17
    go_wp2
    go_ret
    refine ⟨ret_bool ?_, Below.refl _ _⟩
    simp [hne]
theorem sameTo_symm (S T : Nat → ByteArray) (n : Nat) : sameTo S T n = sameTo T S n := by
  induction n with
  | zero => rfl
  | succ n ih => rw [sameTo, sameTo, ih, Bool.beq_comm]

theorem sameTo_add (S T : Nat → ByteArray) (k m : Nat) : sameTo S T (k + m) = (sameTo S T k && sameTo (fun i => S (k + i)) (fun i => T (k + i)) m) := by
  induction m with
  | zero => simp [sameTo]
  | succ m ih => rw [← Nat.add_assoc, sameTo, sameTo, ih, Bool.and_assoc]

/-- The law of the two parts. -/
theorem law_parts (S T : Nat → ByteArray) (n n' k : Nat) (h : k ≤ n) (h' : k ≤ n') :
    (decide (n = n') && sameTo S T n) = (sameTo S T k && (decide (n - k = n' - k) && sameTo (fun i => S (k + i)) (fun i => T (k + i)) (n - k))) := by
  by_cases e : n = n'
  · subst e
    obtain ⟨m, rfl⟩ : ∃ m, n = k + m := ⟨n - k, by omega⟩
    rw [sameTo_add]
    simp
  · have e' : ¬ n - k = n' - k := by omega
    simp [e, e']

theorem law_symm (S T : Nat → ByteArray) (n n' : Nat) : (decide (n = n') && sameTo S T n) = (decide (n' = n) && sameTo T S n') := by
  by_cases e : n = n'
  · subst e
    rw [sameTo_symm]
  · have e' : ¬ n' = n := fun h => e h.symm
    simp [e, e']

end Go.Proofs.Qxb6608971a
