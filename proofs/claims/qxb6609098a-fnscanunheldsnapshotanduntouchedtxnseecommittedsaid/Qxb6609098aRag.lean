/-
  Slices of slices of int64: what the walks are told; the bounds on total length, zzRowBytes, zzRect.
-/
import Derived.Test.Qxb6609098aBase
namespace Go.Proofs.Qxb6609098a
open Go.RowKit

/-- n rows: row i is the slice 'A i' of 'L i' numbers 'Z i'. -/
def RowsArg (w : World) (a : Option Addr) (n : Nat) (A : Nat → Option Addr) (L C : Nat → Nat) (Z : Nat → Nat → Int) : Prop :=
  n ≤ maxLen ∧ (n = 0 ∨ ∃ b off, a = some ⟨b, off, none⟩ ∧ ∀ i, i < n → w.cell? ⟨b, off + i, none⟩ = some (.slice (A i) (L i) (C i)) ∧ IntRow w (A i) (L i) (Z i))

theorem RowsArg.later {w w' : World} {a : Option Addr} {n : Nat} {A : Nat → Option Addr} {L C : Nat → Nat} {Z : Nat → Nat → Int} (h : RowsArg w a n A L C Z) (hb : Below w.heap.size w w') : RowsArg w' a n A L C Z := by
  obtain ⟨hn, h⟩ := h
  refine ⟨hn, ?_⟩
  rcases h with h0 | ⟨b, off, rfl, hc⟩
  · exact .inl h0
  exact .inr ⟨b, off, rfl, fun i hi => ⟨cell_later hb (hc i hi).1, (hc i hi).2.later hb⟩⟩

/-- It returns some bool; where that is true, p holds. -/
def RetB (p : Prop) (e : Ending) : Prop := ∃ r : Bool, e = .returned (.bool r) ∧ (r = true → p)
def RetI (e : Ending) : Prop := ∃ r : Int, e = .returned (.int .i64 r)
theorem RetB.no {p : Prop} : RetB p (.returned (.bool false)) := ⟨false, rfl, fun h => by cases h⟩
theorem RetB.yes {p : Prop} (h : p) : RetB p (.returned (.bool true)) := ⟨true, rfl, fun _ => h⟩

set_option maxHeartbeats 1000000 in
theorem bytes31_any (a : Option Addr) (n c : Nat) (cut : Int) (A : Nat → Option Addr) (L C : Nat → Nat) (Z : Nat → Nat → Int) (w : World) (hS : RowsArg w a n A L C Z) :
    Calls Try.prog 31 #[.slice a n c, .int .i64 cut] w fun e w' => RetB (∀ j, j < n → L j ≤ 1048576) e ∧ w' = w := by
  obtain ⟨hn, h⟩ := hS
  unfold maxLen at hn
  by_cases hbig : 1048576 < n
  · clear h
    go_enter Try.func31, Try.ntmps31
    go_wp2
    go_ret
    exact ⟨RetB.no, rfl⟩
  go_enter Try.func31, Try.ntmps31
  go_wp2
  go_loop [5, 6] (fun t i => ∃ (k : Nat) (r : Int), k ≤ n ∧ 0 ≤ r ∧ r ≤ 1048576 ∧ (∀ j, j < k → L j ≤ 1048576) ∧ i = .int .i64 k ∧ t = .int .i64 r) (fun _ i => n - (intOf i).toNat)
  case atStart => exact ⟨0, n, Nat.zero_le _, by omega, by omega, fun j hj => by omega, rfl, by go_num⟩
  case round =>
    obtain ⟨k, r, hkk, hr0k, hr1k, hLk, rfl, rfl⟩ := hrel
    have HLk : Hid (∀ j, j < k → L j ≤ 1048576) := hLk
    clear hLk
    by_cases hltk : k < n
    · obtain ⟨b, off, rfl, hc⟩ := h.resolve_left (by omega)
      obtain ⟨h1, h2, _⟩ := hc k hltk
      unfold maxLen at h2
      clear hc h
      by_cases hs : 1048576 < L k
      · go_wp2
        go_ret
        exact ⟨RetB.no, rfl⟩
      by_cases hs2 : 1048576 < r + L k
      · go_wp2
        go_ret
        exact ⟨RetB.no, rfl⟩
      have HN : Hid (∀ j, j < k + 1 → L j ≤ 1048576) := fun j hj => by
        by_cases e : j = k
        · subst e; omega
        · exact HLk.out j (by omega)
      go_wp2
      go_round
      case rel => exact ⟨k + 1, _, by omega, by omega, by omega, HN.out, by go_num, rfl⟩
      case measure => simp [intOf]; omega
    · clear h
      obtain rfl : k = n := by omega
      go_wp2
      go_ret
      exact ⟨RetB.yes HLk.out, rfl⟩

set_option maxHeartbeats 2000000 in
theorem bytes24_any (a a' : Option Addr) (n c m c' : Nat) (A : Nat → Option Addr) (L C : Nat → Nat) (Z : Nat → Nat → Int) (A' : Nat → Option Addr) (L' C' : Nat → Nat) (Z' : Nat → Nat → Int) (w : World) (hS : RowsArg w a n A L C Z) (hS' : RowsArg w a' m A' L' C' Z') :
    Calls Try.prog 24 #[.slice a n c, .slice a' m c'] w fun e w' => RetB ((∀ j, j < n → L j ≤ 1048576) ∧ ∀ j, j < m → L' j ≤ 1048576) e ∧ w' = w := by
  obtain ⟨hn, h⟩ := hS
  obtain ⟨hm, h'⟩ := hS'
  unfold maxLen at hn hm
  by_cases hbig : 1048576 < n
  · clear h h'
    go_enter Try.func24, Try.ntmps24
    go_wp2
    go_ret
    exact ⟨RetB.no, rfl⟩
  go_enter Try.func24, Try.ntmps24
  go_wp2
  go_loop [5, 6] (fun t i => ∃ (k : Nat) (r : Int), k ≤ n ∧ 0 ≤ r ∧ r ≤ 1048576 ∧ (∀ j, j < k → L j ≤ 1048576) ∧ i = .int .i64 k ∧ t = .int .i64 r) (fun _ i => n - (intOf i).toNat)
  case atStart => exact ⟨0, n, Nat.zero_le _, by omega, by omega, fun j hj => by omega, rfl, by go_num⟩
  case round =>
    obtain ⟨k, r, hkk, hr0k, hr1k, hLk, rfl, rfl⟩ := hrel
    have HLk : Hid (∀ j, j < k → L j ≤ 1048576) := hLk
    clear hLk
    by_cases hltk : k < n
    · obtain ⟨b, off, rfl, hc⟩ := h.resolve_left (by omega)
      obtain ⟨h1, h2, _⟩ := hc k hltk
      unfold maxLen at h2
      clear hc h
      by_cases hs : 1048576 < L k
      · go_wp2
        go_ret
        exact ⟨RetB.no, rfl⟩
      by_cases hs2 : 1048576 < r + L k
      · go_wp2
        go_ret
        exact ⟨RetB.no, rfl⟩
      have HN : Hid (∀ j, j < k + 1 → L j ≤ 1048576) := fun j hj => by
        by_cases e : j = k
        · subst e; omega
        · exact HLk.out j (by omega)
      go_wp2
      go_round
      case rel => exact ⟨k + 1, _, by omega, by omega, by omega, HN.out, by go_num, rfl⟩
      case measure => simp [intOf]; omega
    · clear h
      obtain rfl : k = n := by omega
      by_cases hbig' : 1048576 < m
      · clear h'
        go_wp2
        go_ret
        exact ⟨RetB.no, rfl⟩
      by_cases hbig2 : 1048576 < r + m
      · clear h'
        go_wp2
        go_ret
        exact ⟨RetB.no, rfl⟩
      go_wp2
      go_loop [5, 7] (fun t i => ∃ (k' : Nat) (r' : Int), k' ≤ m ∧ 0 ≤ r' ∧ r' ≤ 1048576 ∧ (∀ j, j < k' → L' j ≤ 1048576) ∧ i = .int .i64 k' ∧ t = .int .i64 r') (fun _ i => m - (intOf i).toNat)
      case atStart => exact ⟨0, r + m, Nat.zero_le _, by omega, by omega, fun j hj => by omega, rfl, by go_num⟩
      case round =>
        obtain ⟨k', r', hkk', hr0k', hr1k', hLk', rfl, rfl⟩ := hrel
        have HLk' : Hid (∀ j, j < k' → L' j ≤ 1048576) := hLk'
        clear hLk'
        by_cases hltk' : k' < m
        · obtain ⟨b, off, rfl, hc⟩ := h'.resolve_left (by omega)
          obtain ⟨h1, h2, _⟩ := hc k' hltk'
          unfold maxLen at h2
          clear hc h'
          by_cases hs : 1048576 < L' k'
          · go_wp2
            go_ret
            exact ⟨RetB.no, rfl⟩
          by_cases hs2 : 1048576 < r' + L' k'
          · go_wp2
            go_ret
            exact ⟨RetB.no, rfl⟩
          have HN : Hid (∀ j, j < k' + 1 → L' j ≤ 1048576) := fun j hj => by
            by_cases e : j = k'
            · subst e; omega
            · exact HLk'.out j (by omega)
          go_wp2
          go_round
          case rel => exact ⟨k' + 1, _, by omega, by omega, by omega, HN.out, by go_num, rfl⟩
          case measure => simp [intOf]; omega
        · clear h'
          obtain rfl : k' = m := by omega
          go_wp2
          go_ret
          exact ⟨RetB.yes ⟨HLk.out, HLk'.out⟩, rfl⟩

set_option maxHeartbeats 1000000 in
theorem rowBytes_any (a : Option Addr) (n c : Nat) (x : Int) (A : Nat → Option Addr) (L C : Nat → Nat) (Z : Nat → Nat → Int) (w : World) (hS : RowsArg w a n A L C Z) :
    Calls Try.prog 25 #[.slice a n c, .int .i64 x] w fun e w' => RetI e ∧ w' = w := by
  obtain ⟨hn, h⟩ := hS
  unfold maxLen at hn
  by_cases hbig : 1048576 < wrap64 (x + wrap64 (24 * (n : Int)))
  · clear h
    go_enter Try.func25, Try.ntmps25
    go_wp2
    go_ret
    exact ⟨⟨_, rfl⟩, rfl⟩
  go_enter Try.func25, Try.ntmps25
  go_wp2
  go_loop [1, 5] (fun t i => ∃ (k : Nat) (r : Int), k ≤ n ∧ i = .int .i64 k ∧ t = .int .i64 r) (fun _ i => n - (intOf i).toNat)
  case atStart => exact ⟨0, _, Nat.zero_le _, rfl, rfl⟩
  case round =>
    obtain ⟨k, r, hk, rfl, rfl⟩ := hrel
    by_cases hlt : k < n
    · obtain ⟨b, off, rfl, hc⟩ := h.resolve_left (by omega)
      obtain ⟨h1, h2, _⟩ := hc k hlt
      unfold maxLen at h2
      clear hc h
      by_cases hs : 1048576 < wrap64 (r + wrap64 (8 * (L k : Int)))
      · go_wp2
        go_ret
        exact ⟨⟨_, rfl⟩, rfl⟩
      go_wp2
      go_round
      case rel => exact ⟨k + 1, _, by omega, by go_num, rfl⟩
      case measure => simp [intOf]; omega
    · clear h
      go_wp2
      go_ret
      exact ⟨⟨_, rfl⟩, rfl⟩

/-- It returns a width and whether the rows have it; where they do the width is small. -/
def RetW (e : Ending) : Prop := ∃ (x : Int) (r : Bool), e = .returned (.tuple #[.int .i64 x, .bool r]) ∧ (r = true → ∃ k : Nat, x = k ∧ k ≤ 1048576)

set_option maxHeartbeats 1000000 in
theorem rect_any (a : Option Addr) (n c : Nat) (A : Nat → Option Addr) (L C : Nat → Nat) (Z : Nat → Nat → Int) (w : World) (hS : RowsArg w a n A L C Z) (hL : ∀ j, j < n → L j ≤ 1048576) :
    Calls Try.prog 26 #[.slice a n c] w fun e w' => RetW e ∧ w' = w := by
  obtain ⟨hn, h⟩ := hS
  unfold maxLen at hn
  by_cases h0 : n = 0
  · subst h0
    clear h
    go_enter Try.func26, Try.ntmps26
    go_wp2
    go_ret2
    exact ⟨⟨_, _, rfl, fun _ => ⟨0, rfl, by omega⟩⟩, rfl⟩
  obtain ⟨b, off, rfl, hc⟩ := h.resolve_left h0
  have hn0 : ((n : Int) == 0) = false := by simp; omega
  have hp0 : (0 : Int) < (n : Int) := by omega
  have g0 : w.cell? ⟨b, off, none⟩ = some (.slice (A 0) (L 0) (C 0)) := by simpa using (hc 0 (by omega)).1
  have hl0 := hL 0 (by omega)
  go_enter Try.func26, Try.ntmps26
  go_wp2
  go_loop [5] (fun i => ∃ k : Nat, k ≤ n ∧ i = .int .i64 k) (fun i => n - (intOf i).toNat)
  case atStart => exact ⟨0, Nat.zero_le _, rfl⟩
  case round =>
    obtain ⟨k, hk, rfl⟩ := hrel
    by_cases hlt : k < n
    · obtain ⟨h1, h2, _⟩ := hc k hlt
      unfold maxLen at h2
      clear hc
      by_cases hs : L k = L 0
      · have hs' : ((L k : Int) != (L 0 : Int)) = false := by simp [hs]
        go_wp2
        go_round
        case rel => exact ⟨k + 1, by omega, by go_num⟩
        case measure => simp [intOf]; omega
      · have hs' : ((L k : Int) != (L 0 : Int)) = true := by simp; omega
        go_wp2
        go_ret2
        exact ⟨⟨_, _, rfl, fun h => by cases h⟩, rfl⟩
    · clear hc
      go_wp2
      go_ret2
      exact ⟨⟨_, _, rfl, fun _ => ⟨L 0, rfl, hl0⟩⟩, rfl⟩

end Go.Proofs.Qxb6609098a
