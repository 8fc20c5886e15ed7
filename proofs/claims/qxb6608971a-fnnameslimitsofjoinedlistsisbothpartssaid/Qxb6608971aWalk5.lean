/-
  The walk of FnNamesLimitsOfJoinedListsIsBothParts: it returns true and writes nothing that was there.
-/
import Derived.Test.Qxb6608971aCopy
import Derived.WalkLawsBesides
import Derived.Deep.RegionWith
import Derived.Deep.DeepCutAuto
namespace Go.Proofs.Qxb6608971a
open Go.RowKit
set_option maxRecDepth 10000 in
set_option maxHeartbeats 1000000 in
theorem walk5_some (x : Addr) (a1 a2 : Option Addr) (n0 c0 n1 c1 n2 c2 k : Nat) (S T : Nat → ByteArray) (Z : Nat → Int) (w : World) (h0 : StrRow w (some x) n0 S) (h1 : StrRow w a1 n1 T) (h2 : IntRow w a2 n2 Z) :
    Calls Try.prog 5 #[.slice (some x) n0 c0, .slice a1 n1 c1, .slice a2 n2 c2, .int .i64 k] w fun e w' => e = .returned (.bool true) ∧ Below w.heap.size w w' := by
  have hneq := fun w => run_neq_slice_nil_any (P := Try.prog) w 29 9 (some x) n0 c0 0 0 Try.underlying29
  simp only [Option.isNone_some, Bool.not_false] at hneq
  have hn0 : n0 ≤ 2 ^ 63 - 1 := h0.1
  have hn1 : n1 ≤ 2 ^ 63 - 1 := h1.1
  have hn2 : n2 ≤ 2 ^ 63 - 1 := h2.1
  go_enter Try.func5, Try.ntmps5
  go_wp2_with fail
  refine (bytesJoined_any (some x) a1 a2 n0 c0 n1 c1 n2 c2 k S T _ h0 h1 h2.1).mono ?_
  rintro e w1 ⟨⟨r, rfl⟩, hw⟩
  obtain rfl := hw.symm
  cases r
  · go_wp2
    go_ret
    exact ⟨rfl, Below.refl _ _⟩
  by_cases b0 : 65536 < n0
  · go_wp2
    go_ret
    exact ⟨rfl, Below.refl _ _⟩
  by_cases b1 : 65536 < n1
  · go_wp2
    go_ret
    exact ⟨rfl, Below.refl _ _⟩
  by_cases b2 : 65536 < n2
  · go_wp2
    go_ret
    exact ⟨rfl, Below.refl _ _⟩
  go_wp2_with fail
  refine (addStrings_any _ (some x) n0 c0 S _ h0).mono ?_
  rintro e w2 ⟨⟨r1, rfl⟩, hw⟩
  obtain rfl := hw.symm
  go_wp2_with fail
  refine (addStrings_any _ a1 n1 c1 T _ h1).mono ?_
  rintro e w3 ⟨⟨r2, rfl⟩, hw⟩
  obtain rfl := hw.symm
  by_cases b3 : 1048576 < r2
  · go_wp2
    go_ret
    exact ⟨rfl, Below.refl _ _⟩
  by_cases b4 : n1 = n2
  case neg =>
    go_wp2
    go_ret
    exact ⟨rfl, Below.refl _ _⟩
  subst b4
  by_cases b6 : n0 < k
  · go_wp2
    go_ret
    exact ⟨rfl, Below.refl _ _⟩
  by_cases b7 : n1 < k
  · go_wp2
    go_ret
    exact ⟨rfl, Below.refl _ _⟩

  obtain ⟨o, hmk, ho⟩ := make_any 29 9 _ 1 16 Try.underlying29 Try.info9 n0 (by omega) (by omega)
  obtain ⟨f0, hf0⟩ := ho w
  rw [Nat.mul_one] at hf0
  have hb0 : Below w.heap.size w (w.alloc o) := (Below.refl _ _).alloc (Nat.le_refl _) _
  obtain ⟨w1, hcp, hbc, hS1⟩ := copyStrs_run (w.alloc o) w.heap.size n0 n0 c0 (some x) S f0 hf0 (h0.later hb0)
  have hb1 : Below w.heap.size w w1 := hb0.trans (hbc _ (Nat.le_refl _))
  clear ho hf0 hbc hb0
  go_wp2_with fail
  refine (bounds_any a1 a2 n1 c1 c2 T Z _ (h1.later hb1) (h2.later hb1) (by omega)).mono ?_
  rintro e w2 ⟨rfl, hb2, hB2⟩
  go_wp2_with fail
  refine (newRuleForm_any _ n0 n0 S _ (hS1.later hb2) (by omega)).mono ?_
  rintro e w3 ⟨f3, rfl, hb3, hf3, hF3⟩
  go_wp2_with fail
  obtain ⟨bw, hbw⟩ : ∃ bw, (decide (n1 = n0) && sameTo T S n1) = bw := ⟨_, rfl⟩
  refine (zNamesLimits_any _ _ _ _ _ _ _ T S _ h1.1 h0.1 (hB2.later hb3).row hF3.row hf3).mono ?_
  rintro e w4 ⟨he, hb4⟩
  rw [hbw] at he
  subst he
  have HBW : Hid ((decide (n1 = n0) && sameTo T S n1) = bw) := hbw
  clear hbw
  clear hmk hcp hneq
  go_upto_region 17 with fail
  have HS4 : Hid (∀ W, Below w4.heap.size w4 W → StrRow W (some ⟨w.heap.size, 0, none⟩) n0 S) := fun W hW => ((hS1.later hb2).later hb3).later (hb4.trans (hW.mono hb4.size))
  have HB4 : Hid (∀ W, Below w4.heap.size w4 W → BoundTo W w1.heap.size n1 n1 T) := fun W hW => (hB2.later hb3).later (hb4.trans (hW.mono hb4.size))
  have HT4 : Hid (∀ W, Below w4.heap.size w4 W → StrRow W a1 n1 T) := fun W hW => h1.later (hb1.trans ((hb2.mono hb1.size).trans ((hb3.mono (Nat.le_trans hb1.size hb2.size)).trans ((hb4.mono (Nat.le_trans hb1.size (Nat.le_trans hb2.size hb3.size))).trans (hW.mono (Nat.le_trans hb1.size (Nat.le_trans hb2.size (Nat.le_trans hb3.size hb4.size))))))))
  have HW4 : Hid (∀ W, Below w4.heap.size w4 W → Below w.heap.size w W) := fun W hW => (hb1.trans ((hb2.mono hb1.size).trans ((hb3.mono (Nat.le_trans hb1.size hb2.size)).trans ((hb4.mono (Nat.le_trans hb1.size (Nat.le_trans hb2.size hb3.size))).trans (hW.mono (Nat.le_trans hb1.size (Nat.le_trans hb2.size (Nat.le_trans hb3.size hb4.size))))))))
  have hl0 : n0 ≤ maxLen := h0.1
  have hl1 : n1 ≤ maxLen := h1.1
  clear h0 h1 h2 hb1 hS1 hb2 hB2 hb3 hf3 hF3 hb4
  have hkn0 : (k : Int) ≤ (n0 : Int) := by omega
  have hkn1 : (k : Int) ≤ (n1 : Int) := by omega
  go_cut [12] (fun s12 wx => ∃ bh, s12 = .bool bh ∧ bh = sameTo T S k ∧ Below w4.heap.size w4 wx)
  case first =>
    clear HT4 HW4
    have hk0 : k ≤ n0 := by omega
    have hk1 : k ≤ n1 := by omega
    have HS5 : Hid (StrRow w4.drew (some ⟨w.heap.size, 0, none⟩) k S) := (HS4.out _ (Below.refl _ _).drew).head hk0
    clear HS4
    go_region_with (first | (go_at_call 16; refine (newRuleForm_any _ k n0 S _ HS5.out (by omega)).mono ?_; rintro e w5 ⟨f5, rfl, hb5, hf5, hF5⟩) | (go_at_call 15; refine (zNamesLimits_any _ _ _ _ _ _ _ T S _ (Nat.le_trans hk1 hl1) (Nat.le_trans hk0 hl0) ((HB4.out _ ((Below.refl _ _).drew.trans hb5)).head hk1) hF5.row hf5).mono ?_; rintro e w6 ⟨rfl, hb6⟩))
    all_goals go_wp2_with fail
    all_goals go_meet
    all_goals refine ⟨_, rfl, by simp, ?_⟩
    all_goals exact (Below.refl _ _).drew.trans (hb5.trans (hb6.mono hb5.size))
  case rest =>
    obtain ⟨bh, rfl, hbh, hb7⟩ := hcut
    have HBH : Hid (bh = sameTo T S k) := hbh
    clear hbh
    go_upto_region 18 with fail
    go_cut [13] (fun s13 wx => ∃ bt, s13 = .bool bt ∧ bt = (decide (n1 - k = n0 - k) && sameTo (fun i => T (k + i)) (fun i => S (k + i)) (n1 - k)) ∧ Below wc.heap.size wc wx)
    case first =>
      clear HT4 HW4
      obtain ⟨X0, hX0⟩ : ∃ X0, (if n0 = k then some (⟨w.heap.size, 0, none⟩ : Addr) else some ⟨w.heap.size, k, none⟩) = X0 := ⟨_, rfl⟩
      obtain ⟨X1, hX1⟩ : ∃ X1, (if n1 = k then some (⟨w1.heap.size, 0, none⟩ : Addr) else some ⟨w1.heap.size, k * 2, none⟩) = X1 := ⟨_, rfl⟩
      have HS5 : Hid (StrRow wc.drew X0 (n0 - k) (fun i => S (k + i))) := (HS4.out _ (hb7.drew)).tail (fun hk => by rw [← hX0, if_neg (by omega), Nat.zero_add])
      have HB5 : Hid (∀ W, Below wc.heap.size wc W → BoundRow W X1 (n1 - k) (fun i => T (k + i))) := fun W hW => (HB4.out W (hb7.trans (hW.mono hb7.size))).tail (fun hk => by rw [← hX1, if_neg (by omega)])
      clear HS4 HB4 hb7
      go_region_with (first | (go_at_call 16; refine (newRuleForm_any _ (n0 - k) (n0 - k) (fun i => S (k + i)) _ HS5.out (by omega)).mono ?_; rintro e w5 ⟨f5, rfl, hb5, hf5, hF5⟩) | (go_at_call 15; refine (zNamesLimits_any _ _ _ _ _ _ _ (fun i => T (k + i)) (fun i => S (k + i)) _ (Nat.le_trans (Nat.sub_le _ _) hl1) (Nat.le_trans (Nat.sub_le _ _) hl0) (HB5.out _ ((Below.refl _ _).drew.trans hb5)) hF5.row hf5).mono ?_; rintro e w6 ⟨rfl, hb6⟩))
      all_goals go_wp2_with fail
      all_goals go_meet
      all_goals refine ⟨_, rfl, rfl, ?_⟩
      all_goals exact (Below.refl _ _).drew.trans (hb5.trans (hb6.mono hb5.size))
    case rest =>
      obtain ⟨bt, rfl, hbt, hb8⟩ := hcut
      rename_i wd
      have hbb : bw = (bh && bt) := by rw [HBH.out, hbt, ← HBW.out]; exact law_parts T S n1 n0 k (by omega) (by omega)
      have hsm := HBW.out
      rw [law_symm] at hsm
      have HSM : Hid ((decide (n0 = n1) && sameTo S T n0) = bw) := hsm
      have hbd := hb7.trans (hb8.mono hb7.size)
      clear hbt HBH HBW hsm HB4
      have HS9 := HS4.out _ hbd
      have HT9 := HT4.out _ hbd
      have HW9 := HW4.out _ hbd
      clear HS4 HT4 HW4 hb7 hb8 hbd
      subst hbb
      cases bh <;> cases bt
      all_goals
        go_wp2_with fail
        refine (sameNames_any _ _ _ _ _ _ S T _ HS9 HT9).mono ?_
        rintro e w9 ⟨he, hb9⟩
        rw [HSM.out] at he
        subst he
        go_wp2
        go_ret
        exact ⟨rfl, HW9.trans (hb9.mono HW9.size)⟩

set_option maxRecDepth 10000 in
set_option maxHeartbeats 1000000 in
theorem walk5_out (a0 a1 a2 : Option Addr) (n0 c0 n1 c1 n2 c2 : Nat) (cut : Int) (S T : Nat → ByteArray) (Z : Nat → Int) (w : World) (h0 : StrRow w a0 n0 S) (h1 : StrRow w a1 n1 T) (h2 : IntRow w a2 n2 Z) (hcut : cut < 0 ∨ (n0 : Int) < cut) :
    Calls Try.prog 5 #[.slice a0 n0 c0, .slice a1 n1 c1, .slice a2 n2 c2, .int .i64 cut] w fun e w' => e = .returned (.bool true) ∧ Below w.heap.size w w' := by
  have hn0 : n0 ≤ 2 ^ 63 - 1 := h0.1
  have hn1 : n1 ≤ 2 ^ 63 - 1 := h1.1
  have hn2 : n2 ≤ 2 ^ 63 - 1 := h2.1
  go_enter Try.func5, Try.ntmps5
  go_wp2_with fail
  refine (bytesJoined_any a0 a1 a2 n0 c0 n1 c1 n2 c2 cut S T _ h0 h1 h2.1).mono ?_
  rintro e w1 ⟨⟨r, rfl⟩, hw⟩
  obtain rfl := hw.symm
  cases r
  · go_wp2
    go_ret
    exact ⟨rfl, Below.refl _ _⟩
  by_cases b0 : 65536 < n0
  · go_wp2
    go_ret
    exact ⟨rfl, Below.refl _ _⟩
  by_cases b1 : 65536 < n1
  · go_wp2
    go_ret
    exact ⟨rfl, Below.refl _ _⟩
  by_cases b2 : 65536 < n2
  · go_wp2
    go_ret
    exact ⟨rfl, Below.refl _ _⟩
  go_wp2_with fail
  refine (addStrings_any _ a0 n0 c0 S _ h0).mono ?_
  rintro e w2 ⟨⟨r1, rfl⟩, hw⟩
  obtain rfl := hw.symm
  go_wp2_with fail
  refine (addStrings_any _ a1 n1 c1 T _ h1).mono ?_
  rintro e w3 ⟨⟨r2, rfl⟩, hw⟩
  obtain rfl := hw.symm
  by_cases b3 : 1048576 < r2
  · go_wp2
    go_ret
    exact ⟨rfl, Below.refl _ _⟩
  by_cases b4 : n1 = n2
  case neg =>
    go_wp2
    go_ret
    exact ⟨rfl, Below.refl _ _⟩
  subst b4
  rcases hcut with hc | hc
  · go_wp2
    go_ret
    exact ⟨rfl, Below.refl _ _⟩
  · by_cases hc0 : cut < 0
    · omega
    go_wp2
    go_ret
    exact ⟨rfl, Below.refl _ _⟩
set_option maxRecDepth 10000 in
set_option maxHeartbeats 1000000 in
theorem walk5_nil (a1 a2 : Option Addr) (n1 c1 n2 c2 : Nat) (S T : Nat → ByteArray) (Z : Nat → Int) (w : World) (h0 : StrRow w none 0 S) (h1 : StrRow w a1 n1 T) (h2 : IntRow w a2 n2 Z) :
    Calls Try.prog 5 #[.slice none 0 0, .slice a1 n1 c1, .slice a2 n2 c2, .int .i64 0] w fun e w' => e = .returned (.bool true) ∧ Below w.heap.size w w' := by
  have hneq := fun w => run_neq_slice_nil_any (P := Try.prog) w 29 9 none 0 0 0 0 Try.underlying29
  simp only [Option.isNone_none, Bool.not_true] at hneq
  have hn1 : n1 ≤ 2 ^ 63 - 1 := h1.1
  have hn2 : n2 ≤ 2 ^ 63 - 1 := h2.1
  go_enter Try.func5, Try.ntmps5
  go_wp2_with fail
  refine (bytesJoined_any none a1 a2 0 0 n1 c1 n2 c2 0 S T _ h0 h1 h2.1).mono ?_
  rintro e w1 ⟨⟨r, rfl⟩, hw⟩
  obtain rfl := hw.symm
  cases r
  · go_wp2
    go_ret
    exact ⟨rfl, Below.refl _ _⟩
  by_cases b1 : 65536 < n1
  · go_wp2
    go_ret
    exact ⟨rfl, Below.refl _ _⟩
  by_cases b2 : 65536 < n2
  · go_wp2
    go_ret
    exact ⟨rfl, Below.refl _ _⟩
  go_wp2_with fail
  refine (addStrings_any _ none 0 0 S _ h0).mono ?_
  rintro e w2 ⟨⟨r1, rfl⟩, hw⟩
  obtain rfl := hw.symm
  go_wp2_with fail
  refine (addStrings_any _ a1 n1 c1 T _ h1).mono ?_
  rintro e w3 ⟨⟨r2, rfl⟩, hw⟩
  obtain rfl := hw.symm
  by_cases b3 : 1048576 < r2
  · go_wp2
    go_ret
    exact ⟨rfl, Below.refl _ _⟩
  by_cases b4 : n1 = n2
  case neg =>
    go_wp2
    go_ret
    exact ⟨rfl, Below.refl _ _⟩
  subst b4
  go_wp2_with fail
  refine (bounds_any a1 a2 n1 c1 c2 T Z _ h1 h2 (by omega)).mono ?_
  rintro e w2 ⟨rfl, hb2, hB2⟩
  go_wp2_with fail
  refine (newRuleForm_any _ 0 0 S _ (h0.later hb2) (by omega)).mono ?_
  rintro e w3 ⟨f3, rfl, hb3, hf3, hF3⟩
  go_wp2_with fail
  obtain ⟨bw, hbw⟩ : ∃ bw, (decide (n1 = 0) && sameTo T S n1) = bw := ⟨_, rfl⟩
  refine (zNamesLimits_any _ _ _ _ _ _ _ T S _ h1.1 h0.1 (hB2.later hb3).row hF3.row hf3).mono ?_
  rintro e w4 ⟨he, hb4⟩
  rw [hbw] at he
  subst he
  have HBW : Hid ((decide (n1 = 0) && sameTo T S n1) = bw) := hbw
  clear hbw hneq
  go_upto_region 17 with fail
  have HB4 : Hid (∀ W, Below w4.heap.size w4 W → BoundTo W w.heap.size n1 n1 T) := fun W hW => (hB2.later hb3).later (hb4.trans (hW.mono hb4.size))
  have HW4 : Hid (∀ W, Below w4.heap.size w4 W → Below w.heap.size w W) := fun W hW => hb2.trans ((hb3.mono hb2.size).trans ((hb4.mono (Nat.le_trans hb2.size hb3.size)).trans (hW.mono (Nat.le_trans hb2.size (Nat.le_trans hb3.size hb4.size)))))
  have HT4 : Hid (∀ W, Below w4.heap.size w4 W → StrRow W a1 n1 T) := fun W hW => h1.later (HW4.out W hW)
  have hl1 : n1 ≤ maxLen := h1.1
  have HS : Hid (∀ W, StrRow W none 0 S) := fun W => ⟨Nat.zero_le _, .inl rfl⟩
  clear h0 h1 h2 hb2 hB2 hb3 hf3 hF3 hb4
  go_cut [12] (fun s12 wx => s12 = .bool true ∧ Below w4.heap.size w4 wx)
  case first =>
    clear HT4 HW4
    go_region_with (first | (go_at_call 16; refine (newRuleForm_any _ 0 0 S _ (HS.out _) (by omega)).mono ?_; rintro e w5 ⟨f5, rfl, hb5, hf5, hF5⟩) | (go_at_call 15; refine (zNamesLimits_any _ _ _ _ _ _ _ T S _ (Nat.zero_le _) (Nat.zero_le _) (.inl rfl) hF5.row hf5).mono ?_; rintro e w6 ⟨rfl, hb6⟩))
    all_goals go_wp2_with fail
    all_goals go_meet
    all_goals refine ⟨by simp [sameTo], ?_⟩
    all_goals exact (Below.refl _ _).drew.trans (hb5.trans (hb6.mono hb5.size))
  case rest =>
    obtain ⟨rfl, hb7⟩ := hcut
    go_upto_region 18 with fail
    go_cut [13] (fun s13 wx => s13 = .bool bw ∧ Below wc.heap.size wc wx)
    case first =>
      clear HT4 HW4
      have HB5 : Hid (∀ W, Below wc.heap.size wc W → BoundRow W (some ⟨w.heap.size, 0, none⟩) n1 T) := fun W hW => (HB4.out W (hb7.trans (hW.mono hb7.size))).row
      clear HB4 hb7
      go_region_with (first | (go_at_call 16; refine (newRuleForm_any _ 0 0 S _ (HS.out _) (by omega)).mono ?_; rintro e w5 ⟨f5, rfl, hb5, hf5, hF5⟩) | (go_at_call 15; refine (zNamesLimits_any _ _ _ _ _ _ _ T S _ hl1 (Nat.zero_le _) (HB5.out _ ((Below.refl _ _).drew.trans hb5)) hF5.row hf5).mono ?_; rintro e w6 ⟨he, hb6⟩; rw [HBW.out] at he; subst he))
      all_goals go_wp2_with fail
      all_goals go_meet
      all_goals refine ⟨rfl, ?_⟩
      all_goals exact (Below.refl _ _).drew.trans (hb5.trans (hb6.mono hb5.size))
    case rest =>
      obtain ⟨rfl, hb8⟩ := hcut
      have hsm := HBW.out
      rw [law_symm] at hsm
      have HSM : Hid ((decide (0 = n1) && sameTo S T 0) = bw) := hsm
      have hbd := hb7.trans (hb8.mono hb7.size)
      clear HBW hsm HB4
      have HT9 := HT4.out _ hbd
      have HW9 := HW4.out _ hbd
      clear HT4 HW4 hb7 hb8 hbd
      cases bw
      all_goals
        go_wp2_with fail
        refine (sameNames_any _ _ _ _ _ _ S T _ (HS.out _) HT9).mono ?_
        rintro e w9 ⟨he, hb9⟩
        rw [HSM.out] at he
        subst he
        go_wp2
        go_ret
        exact ⟨rfl, HW9.trans (hb9.mono HW9.size)⟩

/-- The walk, whatever the input. -/
theorem walk5 (a0 a1 a2 : Option Addr) (n0 c0 n1 c1 n2 c2 : Nat) (cut : Int) (S T : Nat → ByteArray) (Z : Nat → Int) (w : World) (h0 : StrRow w a0 n0 S) (h1 : StrRow w a1 n1 T) (h2 : IntRow w a2 n2 Z) (hnil : a0 = none → n0 = 0 ∧ c0 = 0) :
    Calls Try.prog 5 #[.slice a0 n0 c0, .slice a1 n1 c1, .slice a2 n2 c2, .int .i64 cut] w fun e w' => e = .returned (.bool true) ∧ Below w.heap.size w w' := by
  by_cases hc : cut < 0 ∨ (n0 : Int) < cut
  · exact walk5_out a0 a1 a2 n0 c0 n1 c1 n2 c2 cut S T Z w h0 h1 h2 hc
  obtain ⟨k, rfl⟩ := Int.eq_ofNat_of_zero_le (a := cut) (by omega)
  cases a0 with
  | some x => exact walk5_some x a1 a2 n0 c0 n1 c1 n2 c2 k S T Z w h0 h1 h2
  | none =>
    obtain ⟨rfl, rfl⟩ := hnil rfl
    obtain rfl : k = 0 := by omega
    exact walk5_nil a1 a2 n1 c1 n2 c2 S T Z w h0 h1 h2

end Go.Proofs.Qxb6608971a
