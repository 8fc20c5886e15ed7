/-
  From the reading of an argument to what the walks are told: a slice of strings, a slice of int64.
-/
import Derived.Test.Qxb6608971aCopy
import Derived.ProofKit
import Derived.SliceStrings
import Derived.ChangeOld
import Derived.Below
namespace Go.Proofs.Qxb6608971a
open Go.ChangeShapes Go.WideShapes Go.ChangeAt Go.RowKit

theorem laidOut : laidOutB Try.prog = true := by kernel_rfl
theorem own : ownKnob Try.prog.godebug = none := by kernel_rfl
theorem Try.cells9 : Try.prog.cellsOf 9 = 1 := by kernel_rfl
theorem Try.cells2 : Try.prog.cellsOf 2 = 1 := by kernel_rfl

theorem strRow_of {H : Type} {enc : TypeId × Value → H} {W : World} {a : Option Addr} {len cap : Nat} {d : DataW H} {p : List MemPlace}
    (h : DataW.Trod enc Try.prog W 0 (fun _ => true) true 29 (.slice a len cap) d p) : ∃ S, StrRow W a len S ∧ (a = none → len = 0 ∧ cap = 0) := by
  obtain ⟨fuel, hf⟩ := h
  rcases open_strings Try.underlying29 Try.underlying9 Try.cells9 hf with ⟨hcs, _⟩ | ⟨x, l, c, ss, hcs, _, hl, hm, hz, _, hcell, hsz⟩
  · simp [Value.cells] at hcs
    obtain ⟨rfl, rfl, rfl⟩ := hcs
    exact ⟨fun _ => ByteArray.empty, ⟨Nat.zero_le _, .inl rfl⟩, fun _ => ⟨rfl, rfl⟩⟩
  · simp [Value.cells] at hcs
    obtain ⟨rfl, rfl, rfl⟩ := hcs
    have hz' : ss.length = cap := by simpa using hz
    refine ⟨fun i => ss.getD i ByteArray.empty, ⟨Nat.le_trans hl hm, ?_⟩, fun h => by cases h⟩
    by_cases h0 : len = 0
    · exact .inl h0
    obtain ⟨b, off, spot⟩ := x
    have hc0 := hcell 0 (by omega)
    have hspot : spot = none := by simpa [Addr.add] using World.cell?_spot hc0
    subst hspot
    refine .inr ⟨b, off, rfl, World.block_lt_of_cell? _ _ (by simpa [Addr.add] using hc0), fun i hi => ⟨?_, ?_⟩⟩
    · rw [← add_plain]; exact hcell i (by omega)
    · have hi' : i < ss.length := by omega
      have : ss.getD i ByteArray.empty = ss[i] := by simp [List.getD, hi']
      show (ss.getD i ByteArray.empty).size ≤ maxLen
      rw [this]
      exact hsz _ (List.getElem_mem hi')

theorem intRow_of {H : Type} {enc : TypeId × Value → H} {W : World} {a : Option Addr} {len cap : Nat} {d : DataW H} {p : List MemPlace}
    (h : DataW.Trod enc Try.prog W 0 (fun _ => true) true 32 (.slice a len cap) d p) : ∃ Z, IntRow W a len Z ∧ (a = none → len = 0 ∧ cap = 0) := by
  obtain ⟨fuel, hf⟩ := h
  rcases open_ints Try.underlying32 Try.underlying2 Try.cells2 hf with ⟨hcs, _⟩ | ⟨x, l, c, zs, hcs, _, hl, hm, hz, _, hcell, _⟩
  · simp [Value.cells] at hcs
    obtain ⟨rfl, rfl, rfl⟩ := hcs
    exact ⟨fun _ => 0, ⟨Nat.zero_le _, .inl rfl⟩, fun _ => ⟨rfl, rfl⟩⟩
  · simp [Value.cells] at hcs
    obtain ⟨rfl, rfl, rfl⟩ := hcs
    have hz' : zs.length = cap := by simpa using hz
    refine ⟨fun i => zs.getD i 0, ⟨Nat.le_trans hl hm, ?_⟩, fun h => by cases h⟩
    by_cases h0 : len = 0
    · exact .inl h0
    obtain ⟨b, off, spot⟩ := x
    have hc0 := hcell 0 (by omega)
    have hspot : spot = none := by simpa [Addr.add] using World.cell?_spot hc0
    subst hspot
    refine .inr ⟨b, off, rfl, World.block_lt_of_cell? _ _ (by simpa [Addr.add] using hc0), fun i hi => ?_⟩
    rw [← add_plain]; exact hcell i (by omega)

end Go.Proofs.Qxb6608971a
