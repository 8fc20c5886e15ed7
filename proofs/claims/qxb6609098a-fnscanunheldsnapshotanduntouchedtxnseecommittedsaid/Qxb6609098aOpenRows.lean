/-
  From the reading of an argument to what the walks are told: a slice of slices of int64.
-/
import Derived.Test.Qxb6609098aOpen
import Derived.Test.Qxb6609098aRag
namespace Go.Proofs.Qxb6609098a
open Go.ChangeShapes Go.WideShapes Go.ChangeAt Go.RowKit

theorem Try.cells22 : Try.prog.cellsOf 22 = 1 := by kernel_rfl

theorem rowsArg_of {H : Type} {enc : TypeId × Value → H} {W : World} {a : Option Addr} {len cap : Nat} {d : DataW H} {p : List MemPlace}
    (h : DataW.Trod enc Try.prog W 0 (fun _ => true) true 49 (.slice a len cap) d p) : ∃ A L C Z, RowsArg W a len A L C Z := by
  obtain ⟨fuel, hf⟩ := h
  rcases Go.Deep.open_slice1 Try.underlying49 Try.cells22 hf with ⟨hcs, _⟩ | ⟨x, l, c, mm, n, V, D, Pl, hcs, _, hl, hm, hz, _, hcell⟩
  · simp [Value.cells] at hcs
    obtain ⟨rfl, rfl, rfl⟩ := hcs
    exact ⟨fun _ => none, fun _ => 0, fun _ => 0, fun _ _ => 0, Nat.zero_le _, .inl rfl⟩
  · simp [Value.cells] at hcs
    obtain ⟨rfl, rfl, rfl⟩ := hcs
    have hz' : mm = cap := by simpa using hz
    have hb : ∀ i, i < mm → ∃ q : Option Addr × Nat × Nat × (Nat → Int), W.cell? (x.add i) = some (.slice q.1 q.2.1 q.2.2.1) ∧ IntRow W q.1 q.2.1 q.2.2.2 := fun i hi => by
      obtain ⟨h1, h2⟩ := hcell i hi
      obtain ⟨a', l', c', Z, hv, hZ⟩ := intRow_cells h2
      exact ⟨(a', l', c', Z), by rw [h1, hv], hZ⟩
    obtain ⟨Q, hQ⟩ := Go.Deep.choose_lt hb
    refine ⟨fun i => (Q i).1, fun i => (Q i).2.1, fun i => (Q i).2.2.1, fun i => (Q i).2.2.2, Nat.le_trans hl hm, ?_⟩
    by_cases h0 : len = 0
    · exact .inl h0
    obtain ⟨b, off, spot⟩ := x
    have hc0 := (hQ 0 (by omega)).1
    have hspot : spot = none := by simpa [Addr.add] using World.cell?_spot hc0
    subst hspot
    refine .inr ⟨b, off, rfl, fun i hi => ⟨?_, (hQ i (by omega)).2⟩⟩
    rw [← add_plain]; exact (hQ i (by omega)).1

end Go.Proofs.Qxb6609098a
