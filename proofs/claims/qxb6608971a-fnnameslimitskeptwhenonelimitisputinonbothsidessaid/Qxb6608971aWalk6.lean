/-
  The walk of FnNamesLimitsKeptWhenOneLimitIsPutInOnBothSides: it returns true and writes nothing that was there.
-/
import Derived.Test.Qxb6608971aInsert
import Derived.WalkLawsBesides
namespace Go.Proofs.Qxb6608971a
open Go.RowKit

set_option maxRecDepth 10000 in
set_option maxHeartbeats 1000000 in
theorem walk6_some (y : Addr) (a1 a2 : Option Addr) (n0 c0 n1 c1 n2 c2 : Nat) (k : Nat) (x : ByteArray) (pr : Int) (S T : Nat → ByteArray) (Z : Nat → Int) (w : World) (h0 : StrRow w (some y) n0 S) (h1 : StrRow w a1 n1 T) (h2 : IntRow w a2 n2 Z) (hx : x.size ≤ maxLen) :
    Calls Try.prog 6 #[.slice (some y) n0 c0, .slice a1 n1 c1, .slice a2 n2 c2, .int .i64 k, .string x, .int .i64 pr] w fun e w' => e = .returned (.bool true) ∧ Below w.heap.size w w' := by
  have hneq := fun w => run_neq_slice_nil_any (P := Try.prog) w 29 9 (some y) n0 c0 0 0 Try.underlying29
  simp only [Option.isNone_some, Bool.not_false] at hneq
  have hn1 : n1 ≤ 2 ^ 63 - 1 := h1.1
  have hn2 : n2 ≤ 2 ^ 63 - 1 := h2.1
  have hnx : x.size ≤ 2 ^ 63 - 1 := hx
  have hn0 : n0 ≤ 2 ^ 63 - 1 := h0.1
  go_enter Try.func6, Try.ntmps6
  go_wp2_with fail
  refine (bytesKept_any (some y) a1 a2 n0 c0 n1 c1 n2 c2 k x pr S T _ h0 h1 h2.1 hx).mono ?_
  rintro e w1 ⟨⟨r, rfl⟩, hw⟩
  obtain rfl := hw.symm
  cases r
  · go_wp2
    go_ret
    exact ⟨rfl, Below.refl _ _⟩
  by_cases b0 : 65536 < n0
  · go_wp2
    go_ret
    exact ⟨rfl, Below.refl _ _⟩
  by_cases b1 : 65536 < n1
  · go_wp2
    go_ret
    exact ⟨rfl, Below.refl _ _⟩
  by_cases b2 : 65536 < n2
  · go_wp2
    go_ret
    exact ⟨rfl, Below.refl _ _⟩
  by_cases b2x : 65536 < x.size
  · go_wp2
    go_ret
    exact ⟨rfl, Below.refl _ _⟩
  go_wp2_with fail
  refine (addStrings_any _ (some y) n0 c0 S _ h0).mono ?_
  rintro e w2 ⟨⟨r1, rfl⟩, hw⟩
  obtain rfl := hw.symm
  go_wp2_with fail
  refine (addStrings_any _ a1 n1 c1 T _ h1).mono ?_
  rintro e w3 ⟨⟨r2, rfl⟩, hw⟩
  obtain rfl := hw.symm
  by_cases b3 : 1048576 < r2
  · go_wp2
    go_ret
    exact ⟨rfl, Below.refl _ _⟩
  by_cases b4 : n1 = n2
  case neg =>
    go_wp2
    go_ret
    exact ⟨rfl, Below.refl _ _⟩
  subst b4
  by_cases b6 : n0 < k
  · go_wp2
    go_ret
    exact ⟨rfl, Below.refl _ _⟩
  by_cases b7 : n1 < k
  · go_wp2
    go_ret
    exact ⟨rfl, Below.refl _ _⟩
  obtain ⟨o, hmk, ho⟩ := make_any 29 9 _ 1 16 Try.underlying29 Try.info9 n0 (by omega) (by omega)
  obtain ⟨f0, hf0⟩ := ho w
  rw [Nat.mul_one] at hf0
  have hb0 : Below w.heap.size w (w.alloc o) := (Below.refl _ _).alloc (Nat.le_refl _) _
  obtain ⟨w1, hcp, hbc, hS1⟩ := copyStrs_run (w.alloc o) w.heap.size n0 n0 c0 (some y) S f0 hf0 (h0.later hb0)
  have hb1 : Below w.heap.size w w1 := hb0.trans (hbc _ (Nat.le_refl _))
  clear ho hf0 hbc hb0
  go_wp2_with fail
  refine (newRuleForm_any (some ⟨w.heap.size, 0, none⟩) n0 n0 S _ hS1 (by omega)).mono ?_
  rintro e w2 ⟨f2, rfl, hb2, hf2, hF2⟩
  go_wp2_with fail
  have hc2 : Below w.heap.size w w2 := hb1.trans (hb2.mono hb1.size)
  refine (bounds_any a1 a2 n1 c1 c2 T Z _ (h1.later hc2) (h2.later hc2) (by omega)).mono ?_
  rintro e w3 ⟨rfl, hb3, hB3⟩
  have hc3 : Below w.heap.size w w3 := hc2.trans (hb3.mono hc2.size)
  go_wp2_with fail
  obtain ⟨bw, hbw⟩ : ∃ bw, (decide (n1 = n0) && sameTo T S n1) = bw := ⟨_, rfl⟩
  refine (zNamesLimits_any _ _ _ _ _ _ _ T S _ h1.1 h0.1 hB3.row (hF2.later hb3).row (cell_later hb3 hf2)).mono ?_
  rintro e w4 ⟨he, hb4⟩
  rw [hbw] at he
  subst he
  have HBW : Hid ((decide (n1 = n0) && sameTo T S n1) = bw) := hbw
  have hc4 : Below w.heap.size w w4 := hc3.trans (hb4.mono hc3.size)
  have hS4 : StrRow w4 (some ⟨w.heap.size, 0, none⟩) n0 S := ((hS1.later hb2).later hb3).later hb4
  clear hbw hb2 hb3 hb4 hB3 hF2 hf2 hc2 hc3 hmk hcp hb1 hS1 hneq
  go_wp2_with fail
  refine (insertNames_any _ n0 _ k x S _ hS4 (by omega) (by omega) hx).mono ?_
  rintro e w5 ⟨rfl, hb5, hI5⟩
  have hc5 : Below w.heap.size w w5 := hc4.trans (hb5.mono hc4.size)
  go_wp2_with fail
  refine (insertNames_any _ n1 _ k x T _ (h1.later hc5) (by omega) (by omega) hx).mono ?_
  rintro e w6 ⟨rfl, hb6, hI6⟩
  have hc6 : Below w.heap.size w w6 := hc5.trans (hb6.mono hc5.size)
  go_wp2_with fail
  refine (insertPrices_any _ n1 _ k pr Z _ (h2.later hc6) (by omega) (by omega)).mono ?_
  rintro e w7 ⟨rfl, hb7, hI7⟩
  have hc7 : Below w.heap.size w w7 := hc6.trans (hb7.mono hc6.size)
  go_wp2_with fail
  refine (bounds_any _ _ (n1 + 1) _ _ (ins T k x) (ins Z k pr) _ (hI6.later hb7) hI7 (by omega)).mono ?_
  rintro e w8 ⟨rfl, hb8, hB8⟩
  have hc8 : Below w.heap.size w w8 := hc7.trans (hb8.mono hc7.size)
  go_wp2_with fail
  refine (newRuleForm_any _ (n0 + 1) _ (ins S k x) _ (((hI5.later hb6).later hb7).later hb8) (by omega)).mono ?_
  rintro e w9 ⟨f9, rfl, hb9, hf9, hF9⟩
  have hc9 : Below w.heap.size w w9 := hc8.trans (hb9.mono hc8.size)
  go_wp2_with fail
  refine (zNamesLimits_any _ _ _ _ _ _ _ (ins T k x) (ins S k x) _ (by unfold maxLen; omega) (by unfold maxLen; omega) (hB8.later hb9).row hF9.row hf9).mono ?_
  rintro e w10 ⟨he, hb10⟩
  rw [law_ins T S n1 n0 k x (by omega), HBW.out] at he
  subst he
  have hc10 : Below w.heap.size w w10 := hc9.trans (hb10.mono hc9.size)
  have hsm := HBW.out
  rw [law_symm] at hsm
  have HSM : Hid ((decide (n0 = n1) && sameTo S T n0) = bw) := hsm
  have hT10 := h1.later hc10
  have hS10 := (((((hS4.later hb5).later hb6).later hb7).later hb8).later hb9).later hb10
  clear HBW hsm hI5 hI6 hI7 hB8 hF9 hf9 hb5 hb6 hb7 hb8 hb9 hb10 hc5 hc6 hc7 hc8 hc9 hS4 hc4 h0 h1 h2
  cases bw
  all_goals
    go_wp2_with fail
    refine (sameNames_any _ _ _ _ _ _ S T _ hS10 hT10).mono ?_
    rintro e w11 ⟨he, hb11⟩
    rw [HSM.out] at he
    subst he
    go_wp2
    go_ret
    exact ⟨rfl, hc10.trans (hb11.mono hc10.size)⟩

set_option maxRecDepth 10000 in
set_option maxHeartbeats 1000000 in
theorem walk6_nil (a1 a2 : Option Addr) (n1 c1 n2 c2 : Nat) (x : ByteArray) (pr : Int) (S T : Nat → ByteArray) (Z : Nat → Int) (w : World) (h0 : StrRow w none 0 S) (h1 : StrRow w a1 n1 T) (h2 : IntRow w a2 n2 Z) (hx : x.size ≤ maxLen) :
    Calls Try.prog 6 #[.slice none 0 0, .slice a1 n1 c1, .slice a2 n2 c2, .int .i64 0, .string x, .int .i64 pr] w fun e w' => e = .returned (.bool true) ∧ Below w.heap.size w w' := by
  have hneq := fun w => run_neq_slice_nil_any (P := Try.prog) w 29 9 none 0 0 0 0 Try.underlying29
  simp only [Option.isNone_none, Bool.not_true] at hneq
  have hn1 : n1 ≤ 2 ^ 63 - 1 := h1.1
  have hn2 : n2 ≤ 2 ^ 63 - 1 := h2.1
  have hnx : x.size ≤ 2 ^ 63 - 1 := hx
  go_enter Try.func6, Try.ntmps6
  go_wp2_with fail
  refine (bytesKept_any none a1 a2 0 0 n1 c1 n2 c2 0 x pr S T _ h0 h1 h2.1 hx).mono ?_
  rintro e w1 ⟨⟨r, rfl⟩, hw⟩
  obtain rfl := hw.symm
  cases r
  · go_wp2
    go_ret
    exact ⟨rfl, Below.refl _ _⟩
  by_cases b1 : 65536 < n1
  · go_wp2
    go_ret
    exact ⟨rfl, Below.refl _ _⟩
  by_cases b2 : 65536 < n2
  · go_wp2
    go_ret
    exact ⟨rfl, Below.refl _ _⟩
  by_cases b2x : 65536 < x.size
  · go_wp2
    go_ret
    exact ⟨rfl, Below.refl _ _⟩
  go_wp2_with fail
  refine (addStrings_any _ none 0 0 S _ h0).mono ?_
  rintro e w2 ⟨⟨r1, rfl⟩, hw⟩
  obtain rfl := hw.symm
  go_wp2_with fail
  refine (addStrings_any _ a1 n1 c1 T _ h1).mono ?_
  rintro e w3 ⟨⟨r2, rfl⟩, hw⟩
  obtain rfl := hw.symm
  by_cases b3 : 1048576 < r2
  · go_wp2
    go_ret
    exact ⟨rfl, Below.refl _ _⟩
  by_cases b4 : n1 = n2
  case neg =>
    go_wp2
    go_ret
    exact ⟨rfl, Below.refl _ _⟩
  subst b4
  go_wp2_with fail
  refine (newRuleForm_any none 0 0 S _ h0 (by omega)).mono ?_
  rintro e w2 ⟨f2, rfl, hb2, hf2, hF2⟩
  go_wp2_with fail
  have hc2 : Below w.heap.size w w2 := hb2
  refine (bounds_any a1 a2 n1 c1 c2 T Z _ (h1.later hc2) (h2.later hc2) (by omega)).mono ?_
  rintro e w3 ⟨rfl, hb3, hB3⟩
  have hc3 : Below w.heap.size w w3 := hc2.trans (hb3.mono hc2.size)
  go_wp2_with fail
  obtain ⟨bw, hbw⟩ : ∃ bw, (decide (n1 = 0) && sameTo T S n1) = bw := ⟨_, rfl⟩
  refine (zNamesLimits_any _ _ _ _ _ _ _ T S _ h1.1 h0.1 hB3.row (hF2.later hb3).row (cell_later hb3 hf2)).mono ?_
  rintro e w4 ⟨he, hb4⟩
  rw [hbw] at he
  subst he
  have HBW : Hid ((decide (n1 = 0) && sameTo T S n1) = bw) := hbw
  have hc4 : Below w.heap.size w w4 := hc3.trans (hb4.mono hc3.size)
  have hS4 : StrRow w4 none 0 S := h0.later hc4
  clear hbw hb2 hb3 hb4 hB3 hF2 hf2 hc2 hc3 hneq
  go_wp2_with fail
  refine (insertNames_any _ 0 _ 0 x S _ hS4 (by omega) (by omega) hx).mono ?_
  rintro e w5 ⟨rfl, hb5, hI5⟩
  have hc5 : Below w.heap.size w w5 := hc4.trans (hb5.mono hc4.size)
  go_wp2_with fail
  refine (insertNames_any _ n1 _ 0 x T _ (h1.later hc5) (by omega) (by omega) hx).mono ?_
  rintro e w6 ⟨rfl, hb6, hI6⟩
  have hc6 : Below w.heap.size w w6 := hc5.trans (hb6.mono hc5.size)
  go_wp2_with fail
  refine (insertPrices_any _ n1 _ 0 pr Z _ (h2.later hc6) (by omega) (by omega)).mono ?_
  rintro e w7 ⟨rfl, hb7, hI7⟩
  have hc7 : Below w.heap.size w w7 := hc6.trans (hb7.mono hc6.size)
  go_wp2_with fail
  refine (bounds_any _ _ (n1 + 1) _ _ (ins T 0 x) (ins Z 0 pr) _ (hI6.later hb7) hI7 (by omega)).mono ?_
  rintro e w8 ⟨rfl, hb8, hB8⟩
  have hc8 : Below w.heap.size w w8 := hc7.trans (hb8.mono hc7.size)
  go_wp2_with fail
  refine (newRuleForm_any _ (0 + 1) _ (ins S 0 x) _ (((hI5.later hb6).later hb7).later hb8) (by omega)).mono ?_
  rintro e w9 ⟨f9, rfl, hb9, hf9, hF9⟩
  have hc9 : Below w.heap.size w w9 := hc8.trans (hb9.mono hc8.size)
  go_wp2_with fail
  refine (zNamesLimits_any _ _ _ _ _ _ _ (ins T 0 x) (ins S 0 x) _ (by unfold maxLen; omega) (by unfold maxLen; omega) (hB8.later hb9).row hF9.row hf9).mono ?_
  rintro e w10 ⟨he, hb10⟩
  rw [law_ins T S n1 0 0 x (by omega), HBW.out] at he
  subst he
  have hc10 : Below w.heap.size w w10 := hc9.trans (hb10.mono hc9.size)
  have hsm := HBW.out
  rw [law_symm] at hsm
  have HSM : Hid ((decide (0 = n1) && sameTo S T 0) = bw) := hsm
  have hT10 := h1.later hc10
  have hS10 := (((((hS4.later hb5).later hb6).later hb7).later hb8).later hb9).later hb10
  clear HBW hsm hI5 hI6 hI7 hB8 hF9 hf9 hb5 hb6 hb7 hb8 hb9 hb10 hc5 hc6 hc7 hc8 hc9 hS4 hc4 h0 h1 h2
  cases bw
  all_goals
    go_wp2_with fail
    refine (sameNames_any _ _ _ _ _ _ S T _ hS10 hT10).mono ?_
    rintro e w11 ⟨he, hb11⟩
    rw [HSM.out] at he
    subst he
    go_wp2
    go_ret
    exact ⟨rfl, hc10.trans (hb11.mono hc10.size)⟩

set_option maxRecDepth 10000 in
set_option maxHeartbeats 1000000 in
theorem walk6_out (a0 : Option Addr) (a1 a2 : Option Addr) (n0 c0 n1 c1 n2 c2 : Nat) (cut : Int) (x : ByteArray) (pr : Int) (S T : Nat → ByteArray) (Z : Nat → Int) (w : World) (h0 : StrRow w a0 n0 S) (h1 : StrRow w a1 n1 T) (h2 : IntRow w a2 n2 Z) (hx : x.size ≤ maxLen) (hcut : cut < 0 ∨ (n0 : Int) < cut) :
    Calls Try.prog 6 #[.slice a0 n0 c0, .slice a1 n1 c1, .slice a2 n2 c2, .int .i64 cut, .string x, .int .i64 pr] w fun e w' => e = .returned (.bool true) ∧ Below w.heap.size w w' := by
  have hn1 : n1 ≤ 2 ^ 63 - 1 := h1.1
  have hn2 : n2 ≤ 2 ^ 63 - 1 := h2.1
  have hnx : x.size ≤ 2 ^ 63 - 1 := hx
  have hn0 : n0 ≤ 2 ^ 63 - 1 := h0.1
  go_enter Try.func6, Try.ntmps6
  go_wp2_with fail
  refine (bytesKept_any a0 a1 a2 n0 c0 n1 c1 n2 c2 cut x pr S T _ h0 h1 h2.1 hx).mono ?_
  rintro e w1 ⟨⟨r, rfl⟩, hw⟩
  obtain rfl := hw.symm
  cases r
  · go_wp2
    go_ret
    exact ⟨rfl, Below.refl _ _⟩
  by_cases b0 : 65536 < n0
  · go_wp2
    go_ret
    exact ⟨rfl, Below.refl _ _⟩
  by_cases b1 : 65536 < n1
  · go_wp2
    go_ret
    exact ⟨rfl, Below.refl _ _⟩
  by_cases b2 : 65536 < n2
  · go_wp2
    go_ret
    exact ⟨rfl, Below.refl _ _⟩
  by_cases b2x : 65536 < x.size
  · go_wp2
    go_ret
    exact ⟨rfl, Below.refl _ _⟩
  go_wp2_with fail
  refine (addStrings_any _ a0 n0 c0 S _ h0).mono ?_
  rintro e w2 ⟨⟨r1, rfl⟩, hw⟩
  obtain rfl := hw.symm
  go_wp2_with fail
  refine (addStrings_any _ a1 n1 c1 T _ h1).mono ?_
  rintro e w3 ⟨⟨r2, rfl⟩, hw⟩
  obtain rfl := hw.symm
  by_cases b3 : 1048576 < r2
  · go_wp2
    go_ret
    exact ⟨rfl, Below.refl _ _⟩
  by_cases b4 : n1 = n2
  case neg =>
    go_wp2
    go_ret
    exact ⟨rfl, Below.refl _ _⟩
  subst b4
  rcases hcut with hc | hc
  · go_wp2
    go_ret
    exact ⟨rfl, Below.refl _ _⟩
  · by_cases hc0 : cut < 0
    · omega
    go_wp2
    go_ret
    exact ⟨rfl, Below.refl _ _⟩

/-- The walk, whatever the input. -/
theorem walk6 (a0 a1 a2 : Option Addr) (n0 c0 n1 c1 n2 c2 : Nat) (cut : Int) (x : ByteArray) (pr : Int) (S T : Nat → ByteArray) (Z : Nat → Int) (w : World) (h0 : StrRow w a0 n0 S) (h1 : StrRow w a1 n1 T) (h2 : IntRow w a2 n2 Z) (hx : x.size ≤ maxLen) (hnil : a0 = none → n0 = 0 ∧ c0 = 0) :
    Calls Try.prog 6 #[.slice a0 n0 c0, .slice a1 n1 c1, .slice a2 n2 c2, .int .i64 cut, .string x, .int .i64 pr] w fun e w' => e = .returned (.bool true) ∧ Below w.heap.size w w' := by
  by_cases hc : cut < 0 ∨ (n0 : Int) < cut
  · exact walk6_out a0 a1 a2 n0 c0 n1 c1 n2 c2 cut x pr S T Z w h0 h1 h2 hx hc
  obtain ⟨k, rfl⟩ := Int.eq_ofNat_of_zero_le (a := cut) (by omega)
  cases a0 with
  | some y => exact walk6_some y a1 a2 n0 c0 n1 c1 n2 c2 k x pr S T Z w h0 h1 h2 hx
  | none =>
    obtain ⟨rfl, rfl⟩ := hnil rfl
    obtain rfl : k = 0 := by omega
    exact walk6_nil a1 a2 n1 c1 n2 c2 x pr S T Z w h0 h1 h2 hx

end Go.Proofs.Qxb6608971a
