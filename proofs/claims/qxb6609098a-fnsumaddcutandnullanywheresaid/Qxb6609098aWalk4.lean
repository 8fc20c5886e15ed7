/-
  The walk of FnSumAddCutAndNullAnywhere.
-/
import Derived.Test.Qxb6609098aSum
namespace Go.Proofs.Qxb6609098a
open Go.RowKit

set_option maxRecDepth 10000 in
set_option maxHeartbeats 2000000 in
theorem walk4_in (a a' : Option Addr) (n c m c' k : Nat) (V : Nat → Int) (N : Nat → Bool) (w : World) (hV : IntRow w a n V) (hN : BoolRow w a' m N) (hkn : k ≤ n) :
    Calls Try.prog 4 #[.slice a n c, .slice a' m c', .int .i64 k] w fun e w' => e = .returned (.bool true) ∧ Below w.heap.size w w' := by
  have hn : n ≤ 2 ^ 63 - 1 := hV.1
  have hm : m ≤ 2 ^ 63 - 1 := hN.1
  go_enter Try.func4, Try.ntmps4
  go_wp2_with fail
  refine (bytes17_any a a' n c m c' k _ hV.1 hN.1).mono ?_
  rintro e w1 ⟨⟨r, rfl⟩, hw⟩
  obtain rfl := hw.symm
  cases r
  · go_wp2
    go_ret
    exact ⟨rfl, Below.refl _ _⟩
  by_cases b0 : 65536 < n
  · go_wp2
    go_ret
    exact ⟨rfl, Below.refl _ _⟩
  by_cases b1 : 65536 < m
  · go_wp2
    go_ret
    exact ⟨rfl, Below.refl _ _⟩
  obtain ⟨L, hL⟩ : ∃ L, wrap64 (sumF (gv m N V) 0 k) = L := ⟨_, rfl⟩
  obtain ⟨R, hR⟩ : ∃ R, wrap64 (sumF (gv m N V) k (n - k)) = R := ⟨_, rfl⟩
  obtain ⟨T, hT⟩ : ∃ T, wrap64 (sumF (gv m N V) 0 n) = T := ⟨_, rfl⟩
  obtain ⟨u1, hu1⟩ : ∃ U, anyF (isN m N) 0 k = U := ⟨_, rfl⟩
  obtain ⟨u2, hu2⟩ : ∃ U, anyF (isN m N) k (n - k) = U := ⟨_, rfl⟩
  have hsum : sumF (gv m N V) 0 k + sumF (gv m N V) k (n - k) = sumF (gv m N V) 0 n := by
    have := sumF_add (gv m N V) 0 k (n - k)
    rw [Nat.zero_add, show k + (n - k) = n by omega] at this
    exact this.symm
  have hany : anyF (isN m N) 0 n = (u1 || u2) := by
    have := anyF_add (isN m N) 0 k (n - k)
    rw [Nat.zero_add, show k + (n - k) = n by omega, hu1, hu2] at this
    exact this
  have hLR : wrap64 (L + R) = T := by rw [← hL, ← hR, wrap_add, wrap_add_right, hsum, hT]
  have HL : Hid (wrap64 (sumF (gv m N V) 0 k) = L) := hL
  have HR : Hid (wrap64 (sumF (gv m N V) k (n - k)) = R) := hR
  have HT : Hid (wrap64 (sumF (gv m N V) 0 n) = T) := hT
  have HU1 : Hid (anyF (isN m N) 0 k = u1) := hu1
  have HU2 : Hid (anyF (isN m N) k (n - k) = u2) := hu2
  have HSUM : Hid (sumF (gv m N V) 0 k + sumF (gv m N V) k (n - k) = sumF (gv m N V) 0 n) := hsum
  have HU : Hid (anyF (isN m N) 0 n = (u1 || u2)) := hany
  have HLR : Hid (wrap64 (L + R) = T) := hLR
  clear hL hR hT hu1 hu2 hsum hany hLR
  go_wp2_with fail
  refine (sumModel_any a a' n c m c' V N _ hV hN).mono ?_
  rintro e w1 ⟨he, hw⟩
  obtain rfl := hw.symm
  rw [HT.out, HU.out] at he
  subst he
  go_wp2_with fail
  refine (newSum_any _).mono ?_
  rintro e w1 ⟨rfl, hs1, hb1⟩
  go_wp2_with fail
  refine (sumFold_any w.heap.size a a' n c m c' 0 n 0 false V N w _ hV hN hb1 (Nat.le_refl _) (by rw [wrap_zero]; exact hs1) (Nat.zero_le _) (Nat.le_refl _)).mono ?_
  rintro e w2 ⟨rfl, hA2, hg2⟩
  rw [Nat.sub_zero, Int.zero_add, Bool.false_or, HT.out, HU.out] at hA2
  have hb2 : Below w.heap.size w w2 := hb1.grown hg2 hb1.size (fun j hj => by cases hj; exact Nat.le_refl _)
  clear hs1 hg2 hb1
  go_wp2_with fail
  refine (newSum_any _).mono ?_
  rintro e w3 ⟨rfl, hB3, hd3⟩
  have hA3 := hA2.later hd3
  have hb3 := hb2.trans (hd3.mono hb2.size)
  have HNE : Hid (w.heap.size ≠ w2.heap.size) := Nat.ne_of_lt hA2.cells.2.2.2.2
  have hle2 : w.heap.size ≤ w2.heap.size := hb2.size
  clear hA2 hd3 hb2
  go_wp2_with fail
  refine (sumFold_any w2.heap.size a a' n c m c' 0 k 0 false V N w _ hV hN hb3 hle2 (by rw [wrap_zero]; exact hB3) (Nat.zero_le _) hkn).mono ?_
  rintro e w4 ⟨rfl, hB4, hg4⟩
  rw [Nat.sub_zero, Int.zero_add, Bool.false_or, HU1.out] at hB4
  have hb4 : Below w.heap.size w w4 := hb3.grown hg4 hb3.size (fun j hj => by cases hj; exact hle2)
  have hA4 := hA3.beside hg4 HNE.out
  clear hA3 hB3 hg4 hb3
  go_wp2_with fail
  refine (sumAdd_null _ _ _ _).mono ?_
  rintro e w5 ⟨rfl, hd5⟩
  have hA5 := hA4.later hd5
  have hB5 := hB4.later hd5
  have hb5 := hb4.trans (hd5.mono hb4.size)
  clear hA4 hB4 hd5 hb4
  go_wp2_with fail
  refine (sumFold_any w2.heap.size a a' n c m c' k n _ _ V N w _ hV hN hb5 hle2 hB5 hkn (Nat.le_refl _)).mono ?_
  rintro e w6 ⟨rfl, hB6, hg6⟩
  rw [HSUM.out, HT.out, HU2.out] at hB6
  have hb6 : Below w.heap.size w w6 := hb5.grown hg6 hb5.size (fun j hj => by cases hj; exact hle2)
  have hA6 := hA5.beside hg6 HNE.out
  clear hA5 hB5 hg6 hb5
  go_wp2_with fail
  refine (newSum_any _).mono ?_
  rintro e w7 ⟨rfl, hC7, hd7⟩
  have HN1 : Hid (w.heap.size ≠ w6.heap.size) := Nat.ne_of_lt hA6.cells.2.2.2.2
  have HN2 : Hid (w2.heap.size ≠ w6.heap.size) := Nat.ne_of_lt hB6.cells.2.2.2.2
  have hle6 : w.heap.size ≤ w6.heap.size := hb6.size
  have hA7 := hA6.later hd7
  have hB7 := hB6.later hd7
  have hb7 := hb6.trans (hd7.mono hb6.size)
  clear hA6 hB6 hd7 hb6
  go_wp2_with fail
  refine (sumFold_any w6.heap.size a a' n c m c' 0 k 0 false V N w _ hV hN hb7 hle6 (by rw [wrap_zero]; exact hC7) (Nat.zero_le _) hkn).mono ?_
  rintro e w8 ⟨rfl, hC8, hg8⟩
  rw [Nat.sub_zero, Int.zero_add, Bool.false_or, HU1.out, HL.out] at hC8
  have hb8 : Below w.heap.size w w8 := hb7.grown hg8 hb7.size (fun j hj => by cases hj; exact hle6)
  have hA8 := hA7.beside hg8 HN1.out
  have hB8 := hB7.beside hg8 HN2.out
  clear hA7 hB7 hC7 hg8 hb7
  go_wp2_with fail
  refine (newSum_any _).mono ?_
  rintro e w9 ⟨rfl, hD9, hd9⟩
  have HM1 : Hid (w.heap.size ≠ w8.heap.size) := Nat.ne_of_lt hA8.cells.2.2.2.2
  have HM2 : Hid (w2.heap.size ≠ w8.heap.size) := Nat.ne_of_lt hB8.cells.2.2.2.2
  have HM3 : Hid (w6.heap.size ≠ w8.heap.size) := Nat.ne_of_lt hC8.cells.2.2.2.2
  have hle8 : w.heap.size ≤ w8.heap.size := hb8.size
  have hA9 := hA8.later hd9
  have hB9 := hB8.later hd9
  have hC9 := hC8.later hd9
  have hb9 := hb8.trans (hd9.mono hb8.size)
  clear hA8 hB8 hC8 hd9 hb8
  go_wp2_with fail
  refine (sumFold_any w8.heap.size a a' n c m c' k n 0 false V N w _ hV hN hb9 hle8 (by rw [wrap_zero]; exact hD9) hkn (Nat.le_refl _)).mono ?_
  rintro e w10 ⟨rfl, hD10, hg10⟩
  rw [Int.zero_add, Bool.false_or, HU2.out, HR.out] at hD10
  have hb10 : Below w.heap.size w w10 := hb9.grown hg10 hb9.size (fun j hj => by cases hj; exact hle8)
  have hA := hA9.beside hg10 HM1.out
  have hB := hB9.beside hg10 HM2.out
  have hC := hC9.beside hg10 HM3.out
  clear hA9 hB9 hC9 hD9 hg10 hb9 hV hN HL HR HT HU1 HU2 HSUM HU
  have hLR := HLR.out
  clear HLR
  cases u1 <;> cases u2
  all_goals
    go_wp2_with (first
      | (go_at_call_of 15 (Value.pointer (some (⟨w.heap.size, 0, none⟩ : Addr))); refine (sumTotal_any _ _ _ _ hA).mono ?_; rintro e wx ⟨rfl, hwx⟩; obtain rfl := hwx.symm)
      | (go_at_call_of 16 (Value.pointer (some (⟨w.heap.size, 0, none⟩ : Addr))); refine (sumAny_any _ _ _ _ hA).mono ?_; rintro e wx ⟨rfl, hwx⟩; obtain rfl := hwx.symm)
      | (go_at_call_of 15 (Value.pointer (some (⟨w2.heap.size, 0, none⟩ : Addr))); refine (sumTotal_any _ _ _ _ hB).mono ?_; rintro e wx ⟨rfl, hwx⟩; obtain rfl := hwx.symm)
      | (go_at_call_of 16 (Value.pointer (some (⟨w2.heap.size, 0, none⟩ : Addr))); refine (sumAny_any _ _ _ _ hB).mono ?_; rintro e wx ⟨rfl, hwx⟩; obtain rfl := hwx.symm)
      | (go_at_call_of 15 (Value.pointer (some (⟨w6.heap.size, 0, none⟩ : Addr))); refine (sumTotal_any _ _ _ _ hC).mono ?_; rintro e wx ⟨rfl, hwx⟩; obtain rfl := hwx.symm)
      | (go_at_call_of 16 (Value.pointer (some (⟨w6.heap.size, 0, none⟩ : Addr))); refine (sumAny_any _ _ _ _ hC).mono ?_; rintro e wx ⟨rfl, hwx⟩; obtain rfl := hwx.symm)
      | (go_at_call_of 15 (Value.pointer (some (⟨w8.heap.size, 0, none⟩ : Addr))); refine (sumTotal_any _ _ _ _ hD10).mono ?_; rintro e wx ⟨rfl, hwx⟩; obtain rfl := hwx.symm)
      | (go_at_call_of 16 (Value.pointer (some (⟨w8.heap.size, 0, none⟩ : Addr))); refine (sumAny_any _ _ _ _ hD10).mono ?_; rintro e wx ⟨rfl, hwx⟩; obtain rfl := hwx.symm))
    go_ret
    exact ⟨rfl, hb10⟩

set_option maxHeartbeats 1000000 in
theorem walk4_out (a a' : Option Addr) (n c m c' : Nat) (k : Int) (V : Nat → Int) (N : Nat → Bool) (w : World) (hV : IntRow w a n V) (hN : BoolRow w a' m N) (hk : k < 0 ∨ (n : Int) < k) :
    Calls Try.prog 4 #[.slice a n c, .slice a' m c', .int .i64 k] w fun e w' => e = .returned (.bool true) ∧ Below w.heap.size w w' := by
  have hn : n ≤ 2 ^ 63 - 1 := hV.1
  have hm : m ≤ 2 ^ 63 - 1 := hN.1
  go_enter Try.func4, Try.ntmps4
  go_wp2_with fail
  refine (bytes17_any a a' n c m c' k _ hV.1 hN.1).mono ?_
  rintro e w1 ⟨⟨r, rfl⟩, hw⟩
  obtain rfl := hw.symm
  cases r
  · go_wp2
    go_ret
    exact ⟨rfl, Below.refl _ _⟩
  by_cases b0 : 65536 < n
  · go_wp2
    go_ret
    exact ⟨rfl, Below.refl _ _⟩
  by_cases b1 : 65536 < m
  · go_wp2
    go_ret
    exact ⟨rfl, Below.refl _ _⟩
  rcases hk with hc | hc
  · go_wp2
    go_ret
    exact ⟨rfl, Below.refl _ _⟩
  · by_cases hc0 : k < 0
    · omega
    go_wp2
    go_ret
    exact ⟨rfl, Below.refl _ _⟩

theorem walk4 (a a' : Option Addr) (n c m c' : Nat) (k : Int) (V : Nat → Int) (N : Nat → Bool) (w : World) (hV : IntRow w a n V) (hN : BoolRow w a' m N) :
    Calls Try.prog 4 #[.slice a n c, .slice a' m c', .int .i64 k] w fun e w' => e = .returned (.bool true) ∧ Below w.heap.size w w' := by
  by_cases hc : k < 0 ∨ (n : Int) < k
  · exact walk4_out a a' n c m c' k V N w hV hN hc
  obtain ⟨j, rfl⟩ := Int.eq_ofNat_of_zero_le (a := k) (by omega)
  exact walk4_in a a' n c m c' j V N w hV hN (by omega)

end Go.Proofs.Qxb6609098a
