/-
  The copy of a slice of strings into a row of the call's own; the rows' facts carried into later worlds; the cuts of a row.
-/
import Derived.Test.Qxb6608971aMake
import Derived.Laws.CopyOwn
import Derived.WideShapes
namespace Go.Proofs.Qxb6608971a
open Go.RowKit

theorem Try.info9 : (Try.prog.info? 9).map (fun i => (i.zero, i.size, i.bytes)) = some (some (.string ByteArray.empty), 1, 16) := by kernel_rfl
theorem Try.size9 : (Try.prog.info? 9).map (·.size) = some 1 := by kernel_rfl

theorem StrRow.later {w w' : World} {a : Option Addr} {n : Nat} {S : Nat → ByteArray} (h : StrRow w a n S) (hb : Below w.heap.size w w') : StrRow w' a n S := by
  obtain ⟨hn, h⟩ := h
  refine ⟨hn, ?_⟩
  rcases h with h0 | ⟨b, off, rfl, hlt, hc⟩
  · exact .inl h0
  exact .inr ⟨b, off, rfl, Nat.lt_of_lt_of_le hlt hb.size, fun i hi => ⟨cell_later hb (hc i hi).1, (hc i hi).2⟩⟩

theorem IntRow.later {w w' : World} {a : Option Addr} {n : Nat} {Z : Nat → Int} (h : IntRow w a n Z) (hb : Below w.heap.size w w') : IntRow w' a n Z := by
  obtain ⟨hn, h⟩ := h
  refine ⟨hn, ?_⟩
  rcases h with h0 | ⟨b, off, rfl, hlt, hc⟩
  · exact .inl h0
  exact .inr ⟨b, off, rfl, Nat.lt_of_lt_of_le hlt hb.size, fun i hi => cell_later hb (hc i hi)⟩

theorem BoundTo.later {w w' : World} {b n k : Nat} {S : Nat → ByteArray} (h : BoundTo w b n k S) (hb : Below w.heap.size w w') : BoundTo w' b n k S := by
  obtain ⟨f, hr, hf⟩ := h
  exact ⟨f, hr.of_block (hb.block _ hr.lt), hf⟩

theorem FormTo.later {w w' : World} {b n k : Nat} {S : Nat → ByteArray} (h : FormTo w b n k S) (hb : Below w.heap.size w w') : FormTo w' b n k S := by
  obtain ⟨f, hr, hf⟩ := h
  exact ⟨f, hr.of_block (hb.block _ hr.lt), hf⟩

theorem FormTo.row {w : World} {b n : Nat} {S : Nat → ByteArray} (h : FormTo w b n n S) : FormRow w (some ⟨b, 0, none⟩) n S := by
  obtain ⟨f, hr, hf⟩ := h
  refine .inr ⟨b, 0, rfl, fun i hi => ?_⟩
  obtain ⟨h1, ⟨p, h2⟩, u, h3⟩ := hf i hi
  refine ⟨?_, ⟨p, ?_⟩, u, ?_⟩
  · rw [← h1, Nat.zero_add]; exact hr.cell (by omega)
  · rw [← h2, Nat.zero_add]; exact hr.cell (by omega)
  · rw [← h3, Nat.zero_add]; exact hr.cell (by omega)

theorem BoundTo.row {w : World} {b n : Nat} {S : Nat → ByteArray} (h : BoundTo w b n n S) : BoundRow w (some ⟨b, 0, none⟩) n S := by
  obtain ⟨f, hr, hf⟩ := h
  refine .inr ⟨b, 0, rfl, fun i hi => ?_⟩
  obtain ⟨h1, p, h2⟩ := hf i hi
  refine ⟨?_, p, ?_⟩
  · rw [← h1, Nat.zero_add]; exact hr.cell (by omega)
  · rw [← h2, Nat.zero_add]; exact hr.cell (by omega)

theorem copyStrs_run (w : World) (g n dC sC : Nat) (sp : Option Addr) (S : Nat → ByteArray) (f : Nat → Value) (hrow : w.rowIs g 9 n f) (hS : StrRow w sp n S) :
    ∃ w1, (∀ ty, (Builtin.copy_ #[29, 29] ty #[.slice (some ⟨g, 0, none⟩) n dC, .slice sp n sC]).run Try.prog w = .ok (goInt n) w1) ∧ (∀ B, B ≤ g → Below B w w1) ∧ StrRow w1 (some ⟨g, 0, none⟩) n S := by
  obtain ⟨hn, h⟩ := hS
  rcases h with rfl | ⟨b, off, rfl, hlt, hc⟩
  · exact ⟨w, fun ty => run_copy_none w 29 29 ty 9 _ _ 0 dC 0 sC Try.underlying29 Try.size9 (by simp), fun B _ => Below.refl _ _, hn, .inl rfl⟩
  · obtain ⟨c, hg, hsz, hcf⟩ := hrow
    have hl : ((List.range n).map fun i => Value.string (S i)).length = n := by simp
    have hrun := fun ty => run_copy_row (P := Try.prog) w 29 29 ty 9 g 0 n dC ⟨b, off, none⟩ n sC c 9 ((List.range n).map fun i => Value.string (S i)) Try.underlying29 Try.size9 hg (by rw [hl]; exact (Nat.min_self n).symm)
      (fun j v hv => by
        obtain ⟨hj, hjv⟩ := List.getElem?_eq_some_iff.1 hv
        rw [hl] at hj
        simp at hjv
        rw [← hjv]
        rw [Go.WideShapes.add_plain]
        exact (hc j hj).1) (by rw [hl]; omega) (by simp [Value.oneCell'])
    rw [hl] at hrun
    refine ⟨_, hrun, fun B hB => below_setRow (Below.refl _ _) hB _, hn, .inr ⟨g, 0, rfl, ?_, fun i hi => ⟨?_, (hc i hi).2⟩⟩⟩
    · have := (Array.getElem?_eq_some_iff.1 hg).1
      simpa [World.setRow] using this
    · have hh := setRow_heap w g c (c.toList.take 0 ++ (List.range n).map (fun i => Value.string (S i)) ++ c.toList.drop (0 + n)).toArray 9 (0, 0) hg
      have hd : c.toList.drop n = [] := List.drop_eq_nil_of_le (by simp; omega)
      simp only [World.cell?, hh]
      simp [hd, hi]

theorem StrRow.head {w : World} {a : Option Addr} {n k : Nat} {S : Nat → ByteArray} (h : StrRow w a n S) (hk : k ≤ n) : StrRow w a k S := by
  obtain ⟨hn, h⟩ := h
  refine ⟨Nat.le_trans hk hn, ?_⟩
  rcases h with h0 | ⟨b, off, rfl, hlt, hc⟩
  · exact .inl (by omega)
  exact .inr ⟨b, off, rfl, hlt, fun i hi => hc i (by omega)⟩

theorem StrRow.tail {w : World} {b off : Nat} {X : Option Addr} {n k : Nat} {S : Nat → ByteArray} (h : StrRow w (some ⟨b, off, none⟩) n S) (hX : k < n → X = some ⟨b, off + k, none⟩) : StrRow w X (n - k) (fun i => S (k + i)) := by
  obtain ⟨hn, h⟩ := h
  refine ⟨by omega, ?_⟩
  by_cases hk : k < n
  · rcases h with h0 | ⟨b', off', he, hlt, hc⟩
    · omega
    simp only [Option.some.injEq, Addr.mk.injEq] at he
    obtain ⟨rfl, rfl, _⟩ := he
    refine .inr ⟨b, off + k, hX hk, hlt, fun i hi => ?_⟩
    rw [Nat.add_assoc]
    exact hc (k + i) (by omega)
  · exact .inl (by omega)

theorem BoundTo.head {w : World} {b n k : Nat} {S : Nat → ByteArray} (h : BoundTo w b n n S) (hk : k ≤ n) : BoundRow w (some ⟨b, 0, none⟩) k S := by
  rcases h.row with h0 | ⟨b', off', he, hc⟩
  · exact .inl (by omega)
  exact .inr ⟨b', off', he, fun i hi => hc i (by omega)⟩

theorem BoundTo.tail {w : World} {b n k : Nat} {X : Option Addr} {S : Nat → ByteArray} (h : BoundTo w b n n S) (hX : k < n → X = some ⟨b, k * 2, none⟩) : BoundRow w X (n - k) (fun i => S (k + i)) := by
  by_cases hk : k < n
  · rcases h.row with h0 | ⟨b', off', he, hc⟩
    · omega
    simp only [Option.some.injEq, Addr.mk.injEq] at he
    obtain ⟨rfl, rfl, _⟩ := he
    refine .inr ⟨b, k * 2, hX hk, fun i hi => ?_⟩
    obtain ⟨h1, p, h2⟩ := hc (k + i) (by omega)
    refine ⟨?_, p, ?_⟩
    · rw [← h1]; congr 2; omega
    · rw [← h2]; congr 2; omega
  · exact .inl (by omega)

end Go.Proofs.Qxb6608971a
