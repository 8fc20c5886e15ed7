/-
  The walk of FnScanPlainSessionSeesEachTablesRows.
-/
import Derived.Test.Qxb6609098aSame
namespace Go.Proofs.Qxb6609098a
open Go.RowKit

theorem newSession_ex (H : Nat) (w : World) : Calls Try.prog 28 #[.pointer (some ⟨H, 0, none⟩)] w fun e w' => ∃ S, e = .returned (.pointer (some ⟨S, 0, none⟩)) ∧ w.heap.size ≤ S ∧ SessAt w' S (.pointer (some ⟨H, 0, none⟩)) (.pointer none) (.map none) ∧ Below w.heap.size w w' :=
  (newSession_any H w).mono fun _ _ h => ⟨_, h.1, Nat.le_refl _, h.2⟩

set_option maxRecDepth 10000 in
set_option maxHeartbeats 4000000 in
theorem walk7 (a a' : Option Addr) (n c m c' : Nat) (A : Nat → Option Addr) (L C : Nat → Nat) (Z : Nat → Nat → Int) (A' : Nat → Option Addr) (L' C' : Nat → Nat) (Z' : Nat → Nat → Int) (w : World) (hS : RowsArg w a n A L C Z) (hS' : RowsArg w a' m A' L' C' Z') :
    Calls Try.prog 7 #[.slice a n c, .slice a' m c'] w fun e w' => e = .returned (.bool true) ∧ Below w.heap.size w w' := by
  have hn : n ≤ 2 ^ 63 - 1 := hS.1
  have hm : m ≤ 2 ^ 63 - 1 := hS'.1
  go_enter Try.func7, Try.ntmps7
  go_wp2_with fail
  refine (bytes24_any a a' n c m c' A L C Z A' L' C' Z' _ hS hS').mono ?_
  rintro e w1 ⟨⟨r, rfl, hr⟩, hw⟩
  obtain rfl := hw.symm
  cases r
  · go_wp2
    go_ret
    exact ⟨rfl, Below.refl _ _⟩
  obtain ⟨hL, hL'⟩ := hr rfl
  have HL : Hid (∀ j, j < n → L j ≤ 1048576) := hL
  have HL' : Hid (∀ j, j < m → L' j ≤ 1048576) := hL'
  clear hr hL hL' hw
  by_cases b0 : 65536 < n
  · go_wp2
    go_ret
    exact ⟨rfl, Below.refl _ _⟩
  by_cases b1 : 65536 < m
  · go_wp2
    go_ret
    exact ⟨rfl, Below.refl _ _⟩
  go_wp2_with fail
  refine (rowBytes_any a n c 0 A L C Z _ hS).mono ?_
  rintro e w1 ⟨⟨r1, rfl⟩, hw⟩
  obtain rfl := hw.symm
  by_cases b2 : 1048576 < r1
  · go_wp2
    go_ret
    exact ⟨rfl, Below.refl _ _⟩
  go_wp2_with fail
  refine (rowBytes_any a' m c' r1 A' L' C' Z' _ hS').mono ?_
  rintro e w1 ⟨⟨r2, rfl⟩, hw⟩
  obtain rfl := hw.symm
  by_cases b3 : 1048576 < r2
  · go_wp2
    go_ret
    exact ⟨rfl, Below.refl _ _⟩
  go_wp2_with fail
  refine (rect_any a n c A L C Z _ hS HL.out).mono ?_
  rintro e w1 ⟨⟨x, r, rfl, hr⟩, hw⟩
  obtain rfl := hw.symm
  cases r
  · go_wp2
    go_ret
    exact ⟨rfl, Below.refl _ _⟩
  obtain ⟨k, rfl, hk⟩ := hr rfl
  clear hr hw
  go_wp2_with fail
  refine (rect_any a' m c' A' L' C' Z' _ hS' HL'.out).mono ?_
  rintro e w1 ⟨⟨x, r, rfl, hr⟩, hw⟩
  obtain rfl := hw.symm
  cases r
  · go_wp2
    go_ret
    exact ⟨rfl, Below.refl _ _⟩
  obtain ⟨k', rfl, hk'⟩ := hr rfl
  clear hr hw
  go_wp2_with fail
  refine (buildTable_any a n c k A L C Z _ hS HL.out (by omega) hk).mono ?_
  rintro e w1 ⟨T, R, rfl, hT, hR, hb1⟩
  go_wp2_with fail
  refine (buildTable_any a' m c' k' A' L' C' Z' _ (hS'.later hb1) HL'.out (by omega) hk').mono ?_
  rintro e w2 ⟨T', R', rfl, hT', hR', hb2⟩
  have hc2 := hb1.trans (hb2.mono hb1.size)
  replace hT := hT.later hb2
  replace hR := hR.later hb2
  clear hb1 hb2
  go_wp2_with fail
  refine (newSession_ex _ _).mono ?_
  rintro e w3 ⟨S, rfl, _, hSe, hb3⟩
  have hd3 : Below w2.heap.size w2 w3 := ((Below.refl _ _).alloc (Nat.le_refl _) _).trans (hb3.mono (by simp))
  have hc3 := hc2.trans (hd3.mono hc2.size)
  have hT3 := hT.later hd3
  have hR3 := hR.later hd3
  have hT3' := hT'.later hd3
  have hR3' := hR'.later hd3
  clear hT hR hT' hR' hb3 hd3 hc2
  go_wp2_with fail
  refine (scanRows_plain S T R n _ L Z _ hSe hT3 hR3 HL.out (by omega)).mono ?_
  rintro e w4 ⟨o4, c4, rfl, hG4, hb4⟩
  have hc4 := hc3.trans (hb4.mono hc3.size)
  have hSe4 := hSe.later hb4
  have hT4 := hT3.later hb4
  have hR4 := hR3.later hb4
  have hT4' := hT3'.later hb4
  have hR4' := hR3'.later hb4
  clear hSe hT3 hR3 hT3' hR3' hb4 hc3
  go_wp2_with fail
  refine (scanRows_plain S T' R' m _ L' Z' _ hSe4 hT4' hR4' HL'.out (by omega)).mono ?_
  rintro e w5 ⟨o5, c5, rfl, hG5, hb5⟩
  have hc5 := hc4.trans (hb5.mono hc4.size)
  have hSe5 := hSe4.later hb5
  have hT5 := hT4.later hb5
  have hR5 := hR4.later hb5
  have hG4' := hG4.later hb5
  clear hSe4 hT4 hR4 hT4' hR4' hb5 hc4 hG4
  go_wp2_with fail
  refine (scanRows_plain S T R n _ L Z _ hSe5 hT5 hR5 HL.out (by omega)).mono ?_
  rintro e w6 ⟨o6, c6, rfl, hG6, hb6⟩
  have hc6 := hc5.trans (hb6.mono hc5.size)
  have hG4'' := hG4'.later hb6
  have hG5' := hG5.later hb6
  clear hSe5 hT5 hR5 hb6 hc5 hG4' hG5
  go_wp2_with fail
  refine (sameRows_any o4 a n c4 c A L C Z _ (hS.later hc6) hG4'').mono ?_
  rintro e w7 ⟨rfl, hb7⟩
  have hc7 := hc6.trans (hb7.mono hc6.size)
  have hG5'' := hG5'.later hb7
  have hG6' := hG6.later hb7
  clear hG4'' hG5' hG6 hb7 hc6
  go_wp2_with fail
  refine (sameRows_any o5 a' m c5 c' A' L' C' Z' _ (hS'.later hc7) hG5'').mono ?_
  rintro e w8 ⟨rfl, hb8⟩
  have hc8 := hc7.trans (hb8.mono hc7.size)
  have hG6'' := hG6'.later hb8
  clear hG5'' hG6' hb8 hc7
  go_wp2_with fail
  refine (sameRows_any o6 a n c6 c A L C Z _ (hS.later hc8) hG6'').mono ?_
  rintro e w9 ⟨rfl, hb9⟩
  go_wp2
  go_ret
  exact ⟨rfl, hc8.trans (hb9.mono hc8.size)⟩

end Go.Proofs.Qxb6609098a
