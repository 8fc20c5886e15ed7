/-
  The walk of FnScanUnheldSnapshotAndUntouchedTxnSeeCommitted.
-/
import Derived.Test.Qxb6609098aScanO
import Derived.Test.Qxb6609098aWalk7
namespace Go.Proofs.Qxb6609098a
open Go.RowKit

theorem SessAt.noMap {w : World} {S : Nat} {lk tx sn : Value} (h : SessAt w S lk tx sn) {es : Array MapEntry} {ck : Nat} : w.heap[S]? ≠ some (.map es ck) := fun e => by
  have h1 := h.1
  simp [World.cell?, e] at h1

theorem TxnAt.beside {w w' : World} {X S : Nat} {lk tx sn : Value} (h : TxnAt w X) (hs : SessAt w S lk tx sn) (hg : w.grownBy w' (some S)) (hne : S < X) : TxnAt w' X := by
  obtain ⟨M, ck, h1, h2⟩ := h
  have hM : M ≠ S := fun e => hs.noMap (e ▸ h2)
  refine ⟨M, ck, (World.cell?_of_block (a := ⟨X, 0, none⟩) (hg.block X (World.block_lt_of_cell? _ _ h1) (by simp; omega))).trans h1, (hg.block M (Array.getElem?_eq_some_iff.1 h2).1 (by simp; omega)).trans h2⟩

theorem cell_beside {w w' : World} {S : Nat} {p : Addr} {v : Value} (h : w.cell? p = some v) (hg : w.grownBy w' (some S)) (hne : p.block ≠ S) : w'.cell? p = some v :=
  (World.cell?_of_block (hg.block p.block (World.block_lt_of_cell? _ _ h) (by simpa using hne))).trans h

set_option maxRecDepth 10000 in
set_option maxHeartbeats 4000000 in
theorem walk8 (a : Option Addr) (n c : Nat) (cut : Int) (A : Nat → Option Addr) (L C : Nat → Nat) (Z : Nat → Nat → Int) (w : World) (hS : RowsArg w a n A L C Z) :
    Calls Try.prog 8 #[.slice a n c, .int .i64 cut] w fun e w' => e = .returned (.bool true) ∧ Below w.heap.size w w' := by
  have hn : n ≤ 2 ^ 63 - 1 := hS.1
  go_enter Try.func8, Try.ntmps8
  go_wp2_with fail
  refine (bytes31_any a n c cut A L C Z _ hS).mono ?_
  rintro e w1 ⟨⟨r, rfl, hr⟩, hw⟩
  obtain rfl := hw.symm
  cases r
  · go_wp2
    go_ret
    exact ⟨rfl, Below.refl _ _⟩
  have HL : Hid (∀ j, j < n → L j ≤ 1048576) := hr rfl
  clear hr hw
  by_cases b0 : 65536 < n
  · go_wp2
    go_ret
    exact ⟨rfl, Below.refl _ _⟩
  go_wp2_with fail
  refine (rowBytes_any a n c 0 A L C Z _ hS).mono ?_
  rintro e w1 ⟨⟨r1, rfl⟩, hw⟩
  obtain rfl := hw.symm
  by_cases b2 : 1048576 < r1
  · go_wp2
    go_ret
    exact ⟨rfl, Below.refl _ _⟩
  go_wp2_with fail
  refine (rect_any a n c A L C Z _ hS HL.out).mono ?_
  rintro e w1 ⟨⟨x, r, rfl, hr⟩, hw⟩
  obtain rfl := hw.symm
  cases r
  · go_wp2
    go_ret
    exact ⟨rfl, Below.refl _ _⟩
  obtain ⟨k, rfl, hk⟩ := hr rfl
  clear hr hw
  by_cases b3 : cut < 0
  · go_wp2
    go_ret
    exact ⟨rfl, Below.refl _ _⟩
  by_cases b4 : (n : Int) < cut
  · go_wp2
    go_ret
    exact ⟨rfl, Below.refl _ _⟩
  go_wp2_with fail
  refine (buildTable_any a n c k A L C Z _ hS HL.out (by omega) hk).mono ?_
  rintro e w1 ⟨T, R, rfl, hT, hR, hc1⟩
  go_wp2_with fail
  refine (newSession_ex _ _).mono ?_
  rintro e w3 ⟨S1, rfl, _, hSe, hb3⟩
  have hd3 : Below w1.heap.size w1 w3 := ((Below.refl _ _).alloc (Nat.le_refl _) _).trans (hb3.mono (by simp))
  have hc3 := hc1.trans (hd3.mono hc1.size)
  have hT3 := hT.later hd3
  have hR3 := hR.later hd3
  clear hT hR hb3 hd3 hc1
  go_wp2_with fail
  refine (newSession_ex _ _).mono ?_
  rintro e w4 ⟨S2, rfl, hS2, hSo, hb4⟩
  have hH4 := cell_later (a := ⟨w3.heap.size, 3, none⟩) (v := .bool false) hb4 (by simp [go_sem])
  have hHS : w3.heap.size < S2 := by simp only [World.alloc, Array.size_push] at hS2; omega
  have hd4 : Below w3.heap.size w3 w4 := ((Below.refl _ _).alloc (Nat.le_refl _) _).trans (hb4.mono (by simp))
  clear hb4 hS2
  go_wp2_with fail
  refine (openTxn_any S2 _ _ _ hSo).mono ?_
  rintro e w5 ⟨X, rfl, hSo5, hX5, hSX, hg5⟩
  have hd5 : Below w3.heap.size w3 w5 := hd4.grown hg5 hd4.size (by rintro _ ⟨⟩; omega)
  have hH5 := cell_beside hH4 hg5 (Nat.ne_of_lt hHS)
  clear hSo hd4 hH4 hg5
  go_wp2_with fail
  refine (newSnapshot_any T cut _).mono ?_
  rintro e w6 ⟨rfl, hb6⟩
  have hd6 : Below w3.heap.size w3 w6 := hd5.trans (hb6.mono hd5.size)
  have hH6 := cell_later hb6 hH5
  have hSo6 := hSo5.later hb6
  have hX6 := hX5.later hb6
  clear hSo5 hX5 hd5 hH5 hb6
  go_wp2_with fail
  refine (setSnapshot_any S2 T cut _ _ _ hSo6).mono ?_
  rintro e w7 ⟨M, rfl, hSo7, hM7, hg7⟩
  have hd7 : Below w3.heap.size w3 w7 := hd6.grown hg7 hd6.size (by rintro _ ⟨⟩; omega)
  have hH7 := cell_beside hH6 hg7 (Nat.ne_of_lt hHS)
  have hX7 := hX6.beside hSo6 hg7 hSX
  have hT7 := hT3.later hd7
  have hR7 := hR3.later hd7
  have hSe7 := hSe.later hd7
  have hc7 := hc3.trans (hd7.mono hc3.size)
  clear hd6 hd7 hH6 hX6 hSo6 hg7 hT3 hR3 hSe hc3 hSX hHS
  go_wp2_with fail
  refine (scanRows_plain S1 T R n _ L Z _ hSe7 hT7 hR7 HL.out (by omega)).mono ?_
  rintro e w8 ⟨o8, c8, rfl, hG8, hb8⟩
  have hc8 := hc7.trans (hb8.mono hc7.size)
  have hT8 := hT7.later hb8
  have hR8 := hR7.later hb8
  have hSo8 := hSo7.later hb8
  have hM8 := hM7.later hb8
  have hX8 := hX7.later hb8
  have hH8 := cell_later hb8 hH7
  clear hc7 hT7 hR7 hSo7 hM7 hX7 hH7 hSe7 hb8
  go_wp2_with fail
  refine (scanRows_other S2 T R n _ X M cut L Z _ hSo8 hX8 hM8 hH8 hT8 hR8 HL.out (by omega)).mono ?_
  rintro e w9 ⟨o9, c9, rfl, hG9, hb9⟩
  have hc9 := hc8.trans (hb9.mono hc8.size)
  have hG8' := hG8.later hb9
  clear hc8 hT8 hR8 hSo8 hM8 hX8 hH8 hb9 hG8
  go_wp2_with fail
  refine (sameRows_any o8 a n c8 c A L C Z _ (hS.later hc9) hG8').mono ?_
  rintro e w10 ⟨rfl, hb10⟩
  have hc10 := hc9.trans (hb10.mono hc9.size)
  have hG9' := hG9.later hb10
  clear hG8' hG9 hb10 hc9
  go_wp2_with fail
  refine (sameRows_any o9 a n c9 c A L C Z _ (hS.later hc10) hG9').mono ?_
  rintro e w11 ⟨rfl, hb11⟩
  go_wp2
  go_ret
  exact ⟨rfl, hc10.trans (hb11.mono hc10.size)⟩

end Go.Proofs.Qxb6609098a
