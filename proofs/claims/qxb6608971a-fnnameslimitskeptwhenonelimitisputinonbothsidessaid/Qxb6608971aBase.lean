/-
  Walks shared by the two laws on namesLimits: what the walk is told of a slice of strings and of a slice of int64; zzB1AddStrings; the two bounds on total length.
-/
import Derived.Test.Qxb6608971aProg
import Derived.WalkKit
import Derived.WalkSpells
namespace Go.Proofs.Qxb6608971a
open Go.RowKit

/-- A slice of n strings, cell by cell: no element, or the cells lie behind the address. -/
def StrRow (w : World) (a : Option Addr) (n : Nat) (S : Nat → ByteArray) : Prop :=
  n ≤ maxLen ∧ (n = 0 ∨ ∃ b off, a = some ⟨b, off, none⟩ ∧ b < w.heap.size ∧ ∀ i, i < n → w.cell? ⟨b, off + i, none⟩ = some (.string (S i)) ∧ (S i).size ≤ maxLen)

/-- A slice of n numbers. -/
def IntRow (w : World) (a : Option Addr) (n : Nat) (Z : Nat → Int) : Prop :=
  n ≤ maxLen ∧ (n = 0 ∨ ∃ b off, a = some ⟨b, off, none⟩ ∧ b < w.heap.size ∧ ∀ i, i < n → w.cell? ⟨b, off + i, none⟩ = some (.int .i64 (Z i)))

/-- It returns some bool, some int. -/
def RetBool (e : Ending) : Prop := ∃ r : Bool, e = .returned (.bool r)
def RetInt (e : Ending) : Prop := ∃ r : Int, e = .returned (.int .i64 r)

set_option maxHeartbeats 400000 in
theorem addStrings_any (t : Int) (a : Option Addr) (n c : Nat) (S : Nat → ByteArray) (w : World) (hS : StrRow w a n S) :
    Calls Try.prog 12 #[.int .i64 t, .slice a n c] w fun e w' => RetInt e ∧ w' = w := by
  obtain ⟨hn, h⟩ := hS
  unfold maxLen at hn
  go_enter Try.func12, Try.ntmps12
  go_wp2
  go_loop [0, 5] (fun t i => ∃ (k : Nat) (r : Int), k ≤ n ∧ i = .int .i64 k ∧ t = .int .i64 r) (fun _ i => n - (intOf i).toNat)
  case atStart => exact ⟨0, t, Nat.zero_le _, rfl, rfl⟩
  case round =>
    obtain ⟨k, r, hk, rfl, rfl⟩ := hrel
    by_cases hlt : k < n
    · obtain ⟨b, off, rfl, _, hc⟩ := h.resolve_left (by omega)
      obtain ⟨h1, h2⟩ := hc k hlt
      unfold maxLen at h2
      clear hc h
      by_cases hr : 1048576 < r
      · go_wp2
        go_ret
        exact ⟨⟨_, rfl⟩, rfl⟩
      · by_cases hs : 1048576 < (S k).size
        · go_wp2
          go_ret
          exact ⟨⟨_, rfl⟩, rfl⟩
        · go_wp2
          go_round
          case rel => exact ⟨k + 1, _, by omega, by go_num, rfl⟩
          case measure => simp [intOf]; omega
    · clear h
      go_wp2
      go_ret
      exact ⟨⟨_, rfl⟩, rfl⟩

set_option maxHeartbeats 1000000 in
theorem bytesJoined_any (a a' a2 : Option Addr) (n c n' c' n2 c2 : Nat) (cut : Int) (S S' : Nat → ByteArray) (w : World) (hS : StrRow w a n S) (hS' : StrRow w a' n' S') (hn2 : n2 ≤ maxLen) :
    Calls Try.prog 13 #[.slice a n c, .slice a' n' c', .slice a2 n2 c2, .int .i64 cut] w fun e w' => RetBool e ∧ w' = w := by
  obtain ⟨hn, h⟩ := hS
  obtain ⟨hn', h'⟩ := hS'
  unfold maxLen at hn hn' hn2
  by_cases hbig : 1048576 < n
  · clear h h'
    go_enter Try.func13, Try.ntmps13
    go_wp2
    go_ret
    exact ⟨⟨_, rfl⟩, rfl⟩
  go_enter Try.func13, Try.ntmps13
  go_wp2
  go_loop [9, 10] (fun t i => ∃ (k : Nat) (r : Int), k ≤ n ∧ 0 ≤ r ∧ r ≤ 1048576 ∧ i = .int .i64 k ∧ t = .int .i64 r) (fun _ i => n - (intOf i).toNat)
  case atStart => exact ⟨0, n, Nat.zero_le _, by omega, by omega, rfl, by go_num⟩
  case round =>
    obtain ⟨k, r, hk, hr0, hr1, rfl, rfl⟩ := hrel
    by_cases hlt : k < n
    · obtain ⟨b, off, rfl, _, hc⟩ := h.resolve_left (by omega)
      obtain ⟨h1, h2⟩ := hc k hlt
      unfold maxLen at h2
      clear hc h h'
      by_cases hs : 1048576 < (S k).size
      · go_wp2
        go_ret
        exact ⟨⟨_, rfl⟩, rfl⟩
      by_cases hs2 : 1048576 < r + (S k).size
      · go_wp2
        go_ret
        exact ⟨⟨_, rfl⟩, rfl⟩
      go_wp2
      go_round
      case rel => exact ⟨k + 1, _, by omega, by omega, by omega, by go_num, rfl⟩
      case measure => simp [intOf]; omega
    · clear h
      by_cases hbig' : 1048576 < n'
      · clear h'
        go_wp2
        go_ret
        exact ⟨⟨_, rfl⟩, rfl⟩
      by_cases hbig2 : 1048576 < r + n'
      · clear h'
        go_wp2
        go_ret
        exact ⟨⟨_, rfl⟩, rfl⟩
      go_wp2
      go_loop [9, 11] (fun t i => ∃ (k' : Nat) (r' : Int), k' ≤ n' ∧ 0 ≤ r' ∧ r' ≤ 1048576 ∧ i = .int .i64 k' ∧ t = .int .i64 r') (fun _ i => n' - (intOf i).toNat)
      case atStart => exact ⟨0, r + n', Nat.zero_le _, by omega, by omega, rfl, by go_num⟩
      case round =>
        obtain ⟨k', r', hk', hr0', hr1', rfl, rfl⟩ := hrel
        by_cases hlt' : k' < n'
        · obtain ⟨b, off, rfl, _, hc⟩ := h'.resolve_left (by omega)
          obtain ⟨h1, h2⟩ := hc k' hlt'
          unfold maxLen at h2
          clear hc h'
          by_cases hs : 1048576 < (S' k').size
          · go_wp2
            go_ret
            exact ⟨⟨_, rfl⟩, rfl⟩
          by_cases hs2 : 1048576 < r' + (S' k').size
          · go_wp2
            go_ret
            exact ⟨⟨_, rfl⟩, rfl⟩
          go_wp2
          go_round
          case rel => exact ⟨k' + 1, _, by omega, by omega, by omega, by go_num, rfl⟩
          case measure => simp [intOf]; omega
        · clear h'
          go_wp2
          all_goals (go_ret; exact ⟨⟨_, rfl⟩, rfl⟩)

set_option maxHeartbeats 1000000 in
theorem bytesKept_any (a a' a2 : Option Addr) (n c n' c' n2 c2 : Nat) (cut : Int) (nm : ByteArray) (pr : Int) (S S' : Nat → ByteArray) (w : World) (hS : StrRow w a n S) (hS' : StrRow w a' n' S') (hn2 : n2 ≤ maxLen) (hnm : nm.size ≤ maxLen) :
    Calls Try.prog 18 #[.slice a n c, .slice a' n' c', .slice a2 n2 c2, .int .i64 cut, .string nm, .int .i64 pr] w fun e w' => RetBool e ∧ w' = w := by
  obtain ⟨hn, h⟩ := hS
  obtain ⟨hn', h'⟩ := hS'
  unfold maxLen at hn hn' hn2 hnm
  by_cases hbig : 1048576 < n
  · clear h h'
    go_enter Try.func18, Try.ntmps18
    go_wp2
    go_ret
    exact ⟨⟨_, rfl⟩, rfl⟩
  go_enter Try.func18, Try.ntmps18
  go_wp2
  go_loop [13, 14] (fun t i => ∃ (k : Nat) (r : Int), k ≤ n ∧ 0 ≤ r ∧ r ≤ 1048576 ∧ i = .int .i64 k ∧ t = .int .i64 r) (fun _ i => n - (intOf i).toNat)
  case atStart => exact ⟨0, n, Nat.zero_le _, by omega, by omega, rfl, by go_num⟩
  case round =>
    obtain ⟨k, r, hk, hr0, hr1, rfl, rfl⟩ := hrel
    by_cases hlt : k < n
    · obtain ⟨b, off, rfl, _, hc⟩ := h.resolve_left (by omega)
      obtain ⟨h1, h2⟩ := hc k hlt
      unfold maxLen at h2
      clear hc h h'
      by_cases hs : 1048576 < (S k).size
      · go_wp2
        go_ret
        exact ⟨⟨_, rfl⟩, rfl⟩
      by_cases hs2 : 1048576 < r + (S k).size
      · go_wp2
        go_ret
        exact ⟨⟨_, rfl⟩, rfl⟩
      go_wp2
      go_round
      case rel => exact ⟨k + 1, _, by omega, by omega, by omega, by go_num, rfl⟩
      case measure => simp [intOf]; omega
    · clear h
      by_cases hbig' : 1048576 < n'
      · clear h'
        go_wp2
        go_ret
        exact ⟨⟨_, rfl⟩, rfl⟩
      by_cases hbig2 : 1048576 < r + n'
      · clear h'
        go_wp2
        go_ret
        exact ⟨⟨_, rfl⟩, rfl⟩
      go_wp2
      go_loop [13, 15] (fun t i => ∃ (k' : Nat) (r' : Int), k' ≤ n' ∧ 0 ≤ r' ∧ r' ≤ 1048576 ∧ i = .int .i64 k' ∧ t = .int .i64 r') (fun _ i => n' - (intOf i).toNat)
      case atStart => exact ⟨0, r + n', Nat.zero_le _, by omega, by omega, rfl, by go_num⟩
      case round =>
        obtain ⟨k', r', hk', hr0', hr1', rfl, rfl⟩ := hrel
        by_cases hlt' : k' < n'
        · obtain ⟨b, off, rfl, _, hc⟩ := h'.resolve_left (by omega)
          obtain ⟨h1, h2⟩ := hc k' hlt'
          unfold maxLen at h2
          clear hc h'
          by_cases hs : 1048576 < (S' k').size
          · go_wp2
            go_ret
            exact ⟨⟨_, rfl⟩, rfl⟩
          by_cases hs2 : 1048576 < r' + (S' k').size
          · go_wp2
            go_ret
            exact ⟨⟨_, rfl⟩, rfl⟩
          go_wp2
          go_round
          case rel => exact ⟨k' + 1, _, by omega, by omega, by omega, by go_num, rfl⟩
          case measure => simp [intOf]; omega
        · clear h'
          go_wp2
          all_goals (go_ret; exact ⟨⟨_, rfl⟩, rfl⟩)

end Go.Proofs.Qxb6608971a
