/-
  From the reading of an argument to what the walks are told: a slice of int64, a slice of bool.
-/
import Derived.Test.Qxb6609098aBase
import Derived.ProofKit
import Derived.ChangeOld
import Derived.Below
import Derived.Deep.Slices
namespace Go.Proofs.Qxb6609098a
open Go.ChangeShapes Go.WideShapes Go.ChangeAt Go.RowKit

theorem laidOut : laidOutB Try.prog = true := by kernel_rfl
theorem own : ownKnob Try.prog.godebug = none := by kernel_rfl
theorem Try.cells2 : Try.prog.cellsOf 2 = 1 := by kernel_rfl
theorem Try.cells4 : Try.prog.cellsOf 4 = 1 := by kernel_rfl

theorem intRow_cells {H : Type} {enc : TypeId × Value → H} {W : World} {fuel : Nat} {v : Value} {x : DataW H × List MemPlace}
    (hf : DataW.trod enc Try.prog W 0 (fun _ => true) true fuel 22 [v] = some x) : ∃ a len cap Z, v = .slice a len cap ∧ IntRow W a len Z := by
  rcases open_ints Try.underlying22 Try.underlying2 Try.cells2 hf with ⟨hcs, _⟩ | ⟨x, l, c, zs, hcs, _, hl, hm, hz, _, hcell, _⟩
  · simp at hcs
    subst hcs
    exact ⟨none, 0, 0, fun _ => 0, rfl, Nat.zero_le _, .inl rfl⟩
  · simp at hcs
    subst hcs
    have hz' : zs.length = c := by simpa using hz
    refine ⟨_, _, _, fun i => zs.getD i 0, rfl, Nat.le_trans hl hm, ?_⟩
    by_cases h0 : l = 0
    · exact .inl h0
    obtain ⟨b, off, spot⟩ := x
    have hc0 := hcell 0 (by omega)
    have hspot : spot = none := by simpa [Addr.add] using World.cell?_spot hc0
    subst hspot
    refine .inr ⟨b, off, rfl, World.block_lt_of_cell? _ _ (by simpa [Addr.add] using hc0), fun i hi => ?_⟩
    rw [← add_plain]; exact hcell i (by omega)

theorem intRow_of {H : Type} {enc : TypeId × Value → H} {W : World} {a : Option Addr} {len cap : Nat} {d : DataW H} {p : List MemPlace}
    (h : DataW.Trod enc Try.prog W 0 (fun _ => true) true 22 (.slice a len cap) d p) : ∃ Z, IntRow W a len Z := by
  obtain ⟨fuel, hf⟩ := h
  obtain ⟨a', l, c, Z, hv, hZ⟩ := intRow_cells (v := .slice a len cap) (by simpa [Value.cells] using hf)
  simp only [Value.slice.injEq] at hv
  obtain ⟨rfl, rfl, rfl⟩ := hv
  exact ⟨Z, hZ⟩

theorem boolRow_of {H : Type} {enc : TypeId × Value → H} {W : World} {a : Option Addr} {len cap : Nat} {d : DataW H} {p : List MemPlace}
    (h : DataW.Trod enc Try.prog W 0 (fun _ => true) true 23 (.slice a len cap) d p) : ∃ N, BoolRow W a len N := by
  obtain ⟨fuel, hf⟩ := h
  rcases Go.Deep.open_slice1 Try.underlying23 Try.cells4 hf with ⟨hcs, _⟩ | ⟨x, l, c, mm, n, V, D, Pl, hcs, _, hl, hm, hz, _, hcell⟩
  · simp [Value.cells] at hcs
    obtain ⟨rfl, rfl, rfl⟩ := hcs
    exact ⟨fun _ => false, Nat.zero_le _, .inl rfl⟩
  · simp [Value.cells] at hcs
    obtain ⟨rfl, rfl, rfl⟩ := hcs
    have hz' : mm = cap := by simpa using hz
    have hb : ∀ i, i < mm → ∃ b : Bool, W.cell? (x.add i) = some (.bool b) := fun i hi => by
      obtain ⟨h1, h2⟩ := hcell i hi
      obtain ⟨b, hb, _⟩ := DataW.trod_bool Try.underlying4 h2
      simp at hb
      exact ⟨b, by rw [h1, hb]⟩
    obtain ⟨N, hN⟩ := Go.Deep.choose_lt hb
    refine ⟨N, Nat.le_trans hl hm, ?_⟩
    by_cases h0 : len = 0
    · exact .inl h0
    obtain ⟨b, off, spot⟩ := x
    have hc0 := hN 0 (by omega)
    have hspot : spot = none := by simpa [Addr.add] using World.cell?_spot hc0
    subst hspot
    refine .inr ⟨b, off, rfl, World.block_lt_of_cell? _ _ (by simpa [Addr.add] using hc0), fun i hi => ?_⟩
    rw [← add_plain]; exact hN i (by omega)

end Go.Proofs.Qxb6609098a
