/-
  The walk of FnSumAddFoldIsSumOfNonNull.
-/
import Derived.Test.Qxb6609098aSum
namespace Go.Proofs.Qxb6609098a
open Go.RowKit

set_option maxRecDepth 10000 in
set_option maxHeartbeats 1000000 in
theorem walk3 (a a' : Option Addr) (n c m c' : Nat) (V : Nat → Int) (N : Nat → Bool) (w : World) (hV : IntRow w a n V) (hN : BoolRow w a' m N) :
    Calls Try.prog 3 #[.slice a n c, .slice a' m c'] w fun e w' => e = .returned (.bool true) ∧ Below w.heap.size w w' := by
  have hn : n ≤ 2 ^ 63 - 1 := hV.1
  have hm : m ≤ 2 ^ 63 - 1 := hN.1
  go_enter Try.func3, Try.ntmps3
  go_wp2_with fail
  refine (bytes9_any a a' n c m c' _ hV.1 hN.1).mono ?_
  rintro e w1 ⟨⟨r, rfl⟩, hw⟩
  obtain rfl := hw.symm
  cases r
  · go_wp2
    go_ret
    exact ⟨rfl, Below.refl _ _⟩
  by_cases b0 : 65536 < n
  · go_wp2
    go_ret
    exact ⟨rfl, Below.refl _ _⟩
  by_cases b1 : 65536 < m
  · go_wp2
    go_ret
    exact ⟨rfl, Below.refl _ _⟩
  obtain ⟨T, hT⟩ : ∃ T, wrap64 (sumF (gv m N V) 0 n) = T := ⟨_, rfl⟩
  obtain ⟨U, hU⟩ : ∃ U, anyF (isN m N) 0 n = U := ⟨_, rfl⟩
  have HT : Hid (wrap64 (sumF (gv m N V) 0 n) = T) := hT
  have HU : Hid (anyF (isN m N) 0 n = U) := hU
  clear hT hU
  go_wp2_with fail
  refine (sumModel_any a a' n c m c' V N _ hV hN).mono ?_
  rintro e w1 ⟨he, hw⟩
  obtain rfl := hw.symm
  rw [HT.out, HU.out] at he
  subst he
  go_wp2_with fail
  refine (newSum_any _).mono ?_
  rintro e w1 ⟨rfl, hs1, hb1⟩
  go_wp2_with fail
  refine (sumFold_any w.heap.size a a' n c m c' 0 n 0 false V N w _ hV hN hb1 (Nat.le_refl _) (by rw [wrap_zero]; exact hs1) (Nat.zero_le _) (Nat.le_refl _)).mono ?_
  rintro e w2 ⟨rfl, hs2, hg2⟩
  rw [Nat.sub_zero, Int.zero_add, Bool.false_or, HT.out, HU.out] at hs2
  have hb2 : Below w.heap.size w w2 := hb1.grown hg2 hb1.size (fun j hj => by cases hj; exact Nat.le_refl _)
  clear hs1 hg2 hb1
  go_wp2_with fail
  refine (newSum_any _).mono ?_
  rintro e w3 ⟨rfl, hs3, hb3⟩
  have hs3' := hs2.later hb3
  have hb3' := hb2.trans (hb3.mono hb2.size)
  have hne : w.heap.size ≠ w2.heap.size := Nat.ne_of_lt hs2.cells.2.2.2.2
  have hle : w.heap.size ≤ w2.heap.size := hb2.size
  clear hs2 hb3 hb2
  have HNE : Hid (w.heap.size ≠ w2.heap.size) := hne
  clear hne
  go_wp2
  go_loopw [9] (fun i wr => ∃ j : Nat, j ≤ n ∧ i = .int .i64 ((j : Int) - 1) ∧ SumAt wr w2.heap.size (wrap64 (sumF (gv m N V) j (n - j))) (anyF (isN m N) j (n - j)) ∧ w3.grownBy wr (some w2.heap.size)) (fun i _ => (intOf i + 1).toNat)
  case atStart => exact ⟨n, Nat.le_refl _, rfl, by rw [Nat.sub_self, sumF, anyF, wrap_zero]; exact hs3, World.grownBy.refl _ _⟩
  case round =>
    obtain ⟨j, hj, rfl, hs, hg⟩ := hrel
    clear hs3
    have hbr : Below w.heap.size w wr := hb3'.grown hg hb3'.size (fun k hk => by cases hk; exact hle)
    have hsr : SumAt wr w.heap.size T U := hs3'.beside hg HNE.out
    clear hs3'
    by_cases h0 : 0 < j
    · obtain ⟨k, rfl⟩ : ∃ k, j = k + 1 := ⟨j - 1, by omega⟩
      have e1 : (((k + 1 : Nat) : Int) - 1) = (k : Int) := by omega
      rw [e1]
      clear e1
      have hVr := hV.later hbr
      have hNr := hN.later hbr
      clear hV hN
      have HE : Hid (n - k = (n - (k + 1)) + 1) := by show _ = _; omega
      cases hq : isN m N k
      · have HQ : Hid (isN m N k = false) := hq
        clear hq
        go_wp2_with fail
        refine (sumVal_int a a' n c m c' k V N _ hVr hNr (by omega) HQ.out).mono ?_
        rintro e w4 ⟨rfl, hb4⟩
        go_wp2_with fail
        refine (sumAdd_int _ _ _ _ _ _ (hs.later hb4)).mono ?_
        rintro e w5 ⟨rfl, hs5, hg5⟩
        rw [wrap_add] at hs5
        go_wp2
        go_roundw
        case rel => exact ⟨k, by omega, by go_num, by rw [HE.out, sumF_left, anyF_left, HQ.out, gv, HQ.out]; simpa [Int.add_comm] using hs5, grown_trans hg (grown_trans (below_grown hb4) hg5)⟩
        case measure => simp [intOf]
      · have HQ : Hid (isN m N k = true) := hq
        clear hq
        go_wp2_with fail
        refine (sumVal_null a a' n c m c' k N _ hNr HQ.out).mono ?_
        rintro e w4 ⟨rfl, hb4⟩
        go_wp2_with fail
        refine (sumAdd_null _ _ _ _).mono ?_
        rintro e w5 ⟨rfl, hb5⟩
        go_wp2
        go_roundw
        case rel => exact ⟨k, by omega, by go_num, by rw [HE.out, sumF_left, anyF_left, HQ.out, gv, HQ.out]; simpa using (hs.later hb4).later hb5, grown_trans hg (grown_trans (below_grown hb4) (below_grown hb5))⟩
        case measure => simp [intOf]
    · obtain rfl : j = 0 := by omega
      rw [Nat.sub_zero, HT.out, HU.out] at hs
      clear HT HU hV hN hg hb3'
      go_wp2_with (first | (go_at_call_of 15 (Value.pointer (some (⟨w.heap.size, 0, none⟩ : Addr))); refine (sumTotal_any _ _ _ _ hsr).mono ?_; rintro e wx ⟨rfl, hwx⟩; obtain rfl := hwx.symm) | (go_at_call_of 15 (Value.pointer (some (⟨w2.heap.size, 0, none⟩ : Addr))); refine (sumTotal_any _ _ _ _ hs).mono ?_; rintro e wx ⟨rfl, hwx⟩; obtain rfl := hwx.symm) | (go_at_call_of 16 (Value.pointer (some (⟨w.heap.size, 0, none⟩ : Addr))); refine (sumAny_any _ _ _ _ hsr).mono ?_; rintro e wx ⟨rfl, hwx⟩; obtain rfl := hwx.symm) | (go_at_call_of 16 (Value.pointer (some (⟨w2.heap.size, 0, none⟩ : Addr))); refine (sumAny_any _ _ _ _ hs).mono ?_; rintro e wx ⟨rfl, hwx⟩; obtain rfl := hwx.symm))
      go_ret
      exact ⟨rfl, hbr⟩

end Go.Proofs.Qxb6609098a
