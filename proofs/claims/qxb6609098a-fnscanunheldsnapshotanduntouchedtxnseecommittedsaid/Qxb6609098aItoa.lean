/-
  zzItoa: it returns a short string, and writes nothing that was there.
-/
import Derived.Test.Qxb6609098aRag
import Derived.Laws.BytesArg
namespace Go.Proofs.Qxb6609098a
open Go.RowKit

/-- It returns a string of at most 20 bytes. -/
def RetS (e : Ending) : Prop := ∃ s : ByteArray, e = .returned (.string s) ∧ s.size ≤ 20

/-- A block of 20 bytes. -/
def BytesAt (w : World) (B : Nat) : Prop := ∃ f, w.rowIs B 154 20 f ∧ ∀ q, q < 20 → ∃ x : Int, f q = .int .u8 x

theorem bytesAt_set {w : World} {B i : Nat} {x : Int} (h : BytesAt w B) : BytesAt (w.setCell ⟨B, i, none⟩ (.int .u8 x)) B := by
  obtain ⟨f, hr, hf⟩ := h
  refine ⟨_, hr.set i (.int .u8 x), fun q hq => ?_⟩
  by_cases e : q = i
  · exact ⟨x, by simp [e]⟩
  · obtain ⟨y, hy⟩ := hf q hq
    exact ⟨y, by show (if q = i then _ else f q) = _; rw [if_neg e, hy]⟩

theorem bytesAt_cells {w : World} {B : Nat} (h : BytesAt w B) (j : Nat) (hj : j ≤ 20) : ∃ xs : List Int, xs.length = 20 - j ∧ ∀ i, i < 20 - j → w.cell? ⟨B, j + i, none⟩ = some (.int .u8 (xs.getD i 0)) := by
  obtain ⟨f, hr, hf⟩ := h
  refine ⟨(List.range (20 - j)).map fun i => match f (j + i) with | .int _ x => x | _ => 0, by simp, fun i hi => ?_⟩
  obtain ⟨x, hx⟩ := hf (j + i) (by omega)
  rw [hr.cell (by omega), hx]
  simp [hi, hx]

theorem pow_step {m j : Nat} (h : m < 10 ^ (j + 1)) : m / 10 < 10 ^ j := by
  rw [Nat.pow_succ] at h
  omega

theorem slice_buf (B j o : Nat) (hj : j ≤ 20) (ho : (if 20 = j then 0 else j) = o) (W : World) :
    (Instr.sliceAt 154 (.pointer (some ⟨B, 0, none⟩)) (some (.int .i64 (j : Int))) none none).run Try.prog W = .ok (.slice (some ⟨B, o, none⟩) (20 - j) (20 - j)) W := by
  have hal : Try.prog.arrayLen 154 = 20 := by kernel_rfl
  have hel : Try.prog.elem 154 = 5 := by kernel_rfl
  have ht : Try.prog.underlying 154 = some (.array (Try.prog.arrayLen 154) (Try.prog.elem 154)) := by kernel_rfl
  rw [run_sliceAt_array_l W 154 ⟨B, 0, none⟩ ht .i64 j (by omega) (by rw [hal]; omega), hel, Try.sizeOf5, hal]
  subst ho
  simp only [Result.andThen, slicedAt, Int.toNat_natCast, Nat.mul_one]
  by_cases e : 20 = j
  · simp [e]
  · rw [if_neg e, if_neg e]
    unfold Addr.add
    split
    · rename_i h; obtain rfl : j = 0 := h; rfl
    · simp

set_option maxHeartbeats 1000000 in
theorem itoa_pos (n : Nat) (hn : n ≤ 1048576) (hp : 0 < n) (w : World) :
    Calls Try.prog 40 #[.int .i64 n] w fun e w' => RetS e ∧ Below w.heap.size w w' := by
  have hn0 : ¬ (n : Int) ≤ 0 := by omega
  have hB0 : ∀ o, o = Obj.cells #[.int .u8 0, .int .u8 0, .int .u8 0, .int .u8 0, .int .u8 0, .int .u8 0, .int .u8 0, .int .u8 0, .int .u8 0, .int .u8 0, .int .u8 0, .int .u8 0, .int .u8 0, .int .u8 0, .int .u8 0, .int .u8 0, .int .u8 0, .int .u8 0, .int .u8 0, .int .u8 0] 154 (0, 0) → BytesAt (w.alloc o) w.heap.size := by
    rintro o rfl
    refine ⟨fun _ => .int .u8 0, World.rowIs_alloc w _ 154 _ (fun i hi => ?_), fun q _ => ⟨0, rfl⟩⟩
    simp at hi
    match i, hi with
    | 0, _ | 1, _ | 2, _ | 3, _ | 4, _ | 5, _ | 6, _ | 7, _ | 8, _ | 9, _ | 10, _ | 11, _ | 12, _ | 13, _ | 14, _ | 15, _ | 16, _ | 17, _ | 18, _ | 19, _ => rfl
    | n + 20, h => exact absurd h (by omega)
  have HB0 : Hid (∀ o, o = Obj.cells #[.int .u8 0, .int .u8 0, .int .u8 0, .int .u8 0, .int .u8 0, .int .u8 0, .int .u8 0, .int .u8 0, .int .u8 0, .int .u8 0, .int .u8 0, .int .u8 0, .int .u8 0, .int .u8 0, .int .u8 0, .int .u8 0, .int .u8 0, .int .u8 0, .int .u8 0, .int .u8 0] 154 (0, 0) → BytesAt (w.alloc o) w.heap.size) := hB0
  clear hB0
  go_enter Try.func40, Try.ntmps40
  go_wp2
  go_loopw [0, 4] (fun t i wr => ∃ m j : Nat, m ≤ 1048576 ∧ j ≤ 20 ∧ m < 10 ^ j ∧ t = .int .i64 m ∧ i = .int .i64 j ∧ BytesAt wr w.heap.size ∧ Below w.heap.size w wr) (fun t _ _ => (intOf t).toNat)
  case atStart => exact ⟨n, 20, hn, Nat.le_refl _, by omega, rfl, rfl, HB0.out _ rfl, (Below.refl _ _).alloc (Nat.le_refl _) _⟩
  case round =>
    clear HB0
    obtain ⟨m, j, hm, hj, hmj, rfl, rfl, hB, hb⟩ := hrel
    have HMJ : Hid (m < 10 ^ j) := hmj
    clear hmj
    by_cases h0 : 0 < m
    · obtain ⟨j', rfl⟩ : ∃ j', j = j' + 1 := ⟨j - 1, by
        have := HMJ.out
        rcases Nat.eq_zero_or_pos j with rfl | h
        · simp at this; omega
        · omega⟩
      have h0' : (0 : Int) < (m : Int) := by omega
      have HM2 : Hid (m / 10 < 10 ^ j') := pow_step HMJ.out
      clear HMJ
      have hB1 := hB
      obtain ⟨f, hr, hf⟩ := hB1
      obtain ⟨x0, hx0⟩ := hf j' (by omega)
      have c0 := hr.cell (i := j') (by omega)
      rw [hx0] at c0
      have z0 := hr.frozen j'
      clear hr hf hx0
      go_wp2
      go_roundw
      case rel => exact ⟨m / 10, j', by omega, by omega, HM2.out, by go_num, by go_num, bytesAt_set hB, hb.setCell (Nat.le_refl _) _⟩
      case measure => simp [intOf]; omega
    · obtain ⟨xs, hxs, hcell⟩ := bytesAt_cells hB j hj
      obtain ⟨o, ho⟩ : ∃ o, (if 20 = j then 0 else j) = o := ⟨_, rfl⟩
      have hconv := run_convert_bytes_arg (P := Try.prog) wr 155 5 Try.underlying155 Try.underlying5 w.heap.size o (20 - j) (20 - j) xs hxs (fun i hi => by rw [← ho, if_neg (by omega)]; exact hcell i hi) 9 Try.underlying9
      have hsl := slice_buf w.heap.size j o hj ho
      have HXS : Hid (xs.length = 20 - j) := hxs
      clear hcell hB HMJ hxs ho
      obtain rfl : m = 0 := by omega
      clear h0 hm
      go_wp2
      go_ret
      exact ⟨⟨_, rfl, by rw [strOfNums_size, HXS.out]; omega⟩, hb⟩

theorem itoa_any (n : Nat) (hn : n ≤ 1048576) (w : World) : Calls Try.prog 40 #[.int .i64 n] w fun e w' => RetS e ∧ Below w.heap.size w w' := by
  by_cases h0 : 0 < n
  · exact itoa_pos n hn h0 w
  obtain rfl : n = 0 := by omega
  go_enter Try.func40, Try.ntmps40
  go_wp2
  go_ret
  exact ⟨⟨_, rfl, by decide⟩, Below.refl _ _⟩

end Go.Proofs.Qxb6609098a
