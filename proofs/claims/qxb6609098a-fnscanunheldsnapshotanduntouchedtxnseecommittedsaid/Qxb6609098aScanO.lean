/-
  (*Session).scan and ZZscanRows in a session with an open transaction that has changed no table, a snapshot and no LOCK TABLES locks.
-/
import Derived.Test.Qxb6609098aOther
namespace Go.Proofs.Qxb6609098a
open Go.RowKit

theorem TxnAt.later {w w' : World} {X : Nat} (h : TxnAt w X) (hb : Below w.heap.size w w') : TxnAt w' X := by
  obtain ⟨M, ck, h1, h2⟩ := h
  exact ⟨M, ck, cell_later hb h1, (hb.block M (Array.getElem?_eq_some_iff.1 h2).1).trans h2⟩
theorem SnapAt.later {w w' : World} {M T : Nat} {cut : Int} (h : SnapAt w M T cut) (hb : Below w.heap.size w w') : SnapAt w' M T cut := by
  obtain ⟨ck, bn, h2⟩ := h
  exact ⟨ck, bn, (hb.block M (Array.getElem?_eq_some_iff.1 h2).1).trans h2⟩

set_option maxRecDepth 10000 in
set_option maxHeartbeats 2000000 in
theorem sessionScan_other (S T R n V H X M : Nat) (cut : Int) (L : Nat → Nat) (Z : Nat → Nat → Int) (w0 w : World) (hS : SessAt w S (.pointer (some ⟨H, 0, none⟩)) (.pointer (some ⟨X, 0, none⟩)) (.map (some M))) (hX : TxnAt w X) (hM : SnapAt w M T cut) (hH : w.cell? ⟨H, 3, none⟩ = some (.bool false)) (h0V : w0.heap.size ≤ V) (hT0 : TableAt w0 T R n) (hR0 : VRows w0 R n n L Z) (hb0 : Below w0.heap.size w0 w) (hO : OutIs w V 0 none 0 L Z) (hL : ∀ j, j < n → L j ≤ 1048576) (hn : n ≤ 65536) :
    Calls Try.prog 42 #[.pointer (some ⟨S, 0, none⟩), .pointer (some ⟨T, 0, none⟩), .func (.func 43) #[] #[.pointer (some ⟨V, 0, none⟩)]] w fun e w' => ∃ ao c, e = .returned (.tuple #[]) ∧ OutIs w' V n ao c L Z ∧ Below V w w' := by
  have hlt := hS.lt
  obtain ⟨d35, d36, d40, z36, z40⟩ := hS
  obtain ⟨N, ckN, dX, hN⟩ := hX
  obtain ⟨ckM, bn, hMM⟩ := hM
  have hlook1 := look_empty T N ckN w hN
  have hlook2 := look_one T M ckM bn _ w hMM
  have HH : Hid (w.cell? ⟨H, 3, none⟩ = some (.bool false)) := hH
  clear hN hMM hH
  go_enter Try.func42, Try.ntmps42
  go_wp2_with fail
  refine (holds_any H _ (cell_later ((Below.refl _ _).alloc (Nat.le_refl _) _) HH.out)).mono ?_
  rintro e w1 ⟨rfl, hw⟩
  obtain rfl := hw.symm
  go_wp2_with fail
  refine (tableScan_any T R n V L Z w0 _ h0V hT0 hR0 (hb0.alloc hb0.size _) (hO.later ((Below.refl _ _).alloc (Nat.le_refl _) _)) hL hn).mono ?_
  rintro e w2 ⟨ao, c, rfl, hO2, hb2⟩
  have hVw : V ≤ w.heap.size := Nat.le_of_lt (World.block_lt_of_cell? _ _ hO.cell)
  go_wp2
  go_end0
  exact ⟨ao, c, rfl, hO2, ((Below.refl V w).alloc hVw _).trans hb2⟩

theorem scanRows_other (S T R n H X M : Nat) (cut : Int) (L : Nat → Nat) (Z : Nat → Nat → Int) (w : World) (hS : SessAt w S (.pointer (some ⟨H, 0, none⟩)) (.pointer (some ⟨X, 0, none⟩)) (.map (some M))) (hX : TxnAt w X) (hM : SnapAt w M T cut) (hH : w.cell? ⟨H, 3, none⟩ = some (.bool false)) (hT : TableAt w T R n) (hR : VRows w R n n L Z) (hL : ∀ j, j < n → L j ≤ 1048576) (hn : n ≤ 65536) :
    Calls Try.prog 29 #[.pointer (some ⟨S, 0, none⟩), .pointer (some ⟨T, 0, none⟩)] w fun e w' => ∃ ao c, e = .returned (.slice ao n c) ∧ GotRows w' ao n L Z ∧ Below w.heap.size w w' :=
  zscan_of S T n L Z w fun w1 hb hO => sessionScan_other S T R n w.heap.size H X M cut L Z w w1 (hS.later hb) (hX.later hb) (hM.later hb) (cell_later hb hH) (Nat.le_refl _) hT hR hb hO hL hn

end Go.Proofs.Qxb6609098a
