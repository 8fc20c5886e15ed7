/-
  zzB1InsertNames and zzB1InsertPrices: a new row with one element put in; and the law for it.
-/
import Derived.Test.Qxb6608971aCopy
namespace Go.Proofs.Qxb6608971a
open Go.RowKit

theorem Try.info2 : (Try.prog.info? 2).map (fun i => (i.zero, i.size, i.bytes)) = some (some (.int .i64 0), 1, 8) := by kernel_rfl

/-- x put in at k. -/
def ins {α : Type} (S : Nat → α) (k : Nat) (x : α) (i : Nat) : α := if i < k then S i else if i = k then x else S (i - 1)

theorem one_new (w : World) (v : Value) (t : TypeId) : ∀ j u, [v][j]? = some u → (w.alloc (.cells #[v] t)).cell? ((⟨w.heap.size, 0, none⟩ : Addr).add j) = some u := by
  intro j u hj
  match j, hj with
  | 0, hj => simp at hj; subst hj; simp [Addr.add]

theorem sizes_ins {S : Nat → ByteArray} {k n : Nat} {x : ByteArray} (h : ∀ i, i < n → (S i).size ≤ maxLen) (hx : x.size ≤ maxLen) (hk : k ≤ n) : ∀ i, i < n + 1 → (ins S k x i).size ≤ maxLen := by
  intro i hi
  unfold ins
  split
  · exact h i (by omega)
  · split
    · exact hx
    · exact h (i - 1) (by omega)

theorem insRow_strs {w w' : World} {a : Option Addr} {B n k : Nat} {S : Nat → ByteArray} {x : ByteArray} (hown : w'.ownsRow B 9 1 (.slice (some ⟨B, 0, none⟩) (n + 1) (n + 1)) (n + 1) ((List.range (n + 1)).map fun j => .string (ins S k x j)))
    (hS : StrRow w a n S) (hx : x.size ≤ maxLen) (hk : k ≤ n) (hsm : n ≤ 70000) : StrRow w' (some ⟨B, 0, none⟩) (n + 1) (ins S k x) := by
  have hcell : ∀ i, i < n + 1 → w'.cell? ⟨B, i, none⟩ = some (.string (ins S k x i)) := fun i hi => by rw [hown.cellAt i (by omega)]; simp [hi]
  have hsz : ∀ i, i < n → (S i).size ≤ maxLen := by
    obtain ⟨_, h⟩ := hS
    intro i hi
    rcases h with rfl | ⟨b, off, _, _, hc⟩
    · omega
    · exact (hc i hi).2
  refine ⟨by unfold maxLen; omega, .inr ⟨B, 0, rfl, World.block_lt_of_cell? _ _ (hcell 0 (by omega)), fun i hi => ⟨by rw [Nat.zero_add]; exact hcell i hi, sizes_ins hsz hx hk i hi⟩⟩⟩

theorem insRow_ints {w' : World} {B n k : Nat} {S : Nat → Int} {x : Int} (hown : w'.ownsRow B 2 1 (.slice (some ⟨B, 0, none⟩) (n + 1) (n + 1)) (n + 1) ((List.range (n + 1)).map fun j => .int .i64 (ins S k x j)))
    (hsm : n ≤ 70000) : IntRow w' (some ⟨B, 0, none⟩) (n + 1) (ins S k x) := by
  have hcell : ∀ i, i < n + 1 → w'.cell? ⟨B, i, none⟩ = some (.int .i64 (ins S k x i)) := fun i hi => by rw [hown.cellAt i (by omega)]; simp [hi]
  exact ⟨by unfold maxLen; omega, .inr ⟨B, 0, rfl, World.block_lt_of_cell? _ _ (hcell 0 (by omega)), fun i hi => by rw [Nat.zero_add]; exact hcell i hi⟩⟩

theorem sameTo_ins (S T : Nat → ByteArray) (n k : Nat) (x : ByteArray) (hk : k ≤ n) : sameTo (ins S k x) (ins T k x) (n + 1) = sameTo S T n := by
  obtain ⟨m, rfl⟩ : ∃ m, n = k + m := ⟨n - k, by omega⟩
  have h1 : ∀ j, j ≤ k → sameTo (ins S k x) (ins T k x) j = sameTo S T j := by
    intro j hj
    induction j with
    | zero => rfl
    | succ j ih =>
      rw [sameTo, sameTo, ih (by omega)]
      simp [ins, show j < k by omega]
  induction m with
  | zero =>
    rw [Nat.add_zero, sameTo, h1 k (Nat.le_refl _)]
    simp [ins]
  | succ m ih =>
    rw [show k + (m + 1) + 1 = (k + m + 1) + 1 by omega, sameTo, ih (by omega), show k + (m + 1) = (k + m) + 1 by omega, sameTo]
    have e1 : ∀ R : Nat → ByteArray, ins R k x (k + m + 1) = R (k + m) := fun R => by unfold ins; rw [if_neg (by omega), if_neg (by omega)]; simp
    rw [e1, e1]

theorem law_ins (S T : Nat → ByteArray) (n n' k : Nat) (x : ByteArray) (h : k ≤ n) : (decide (n + 1 = n' + 1) && sameTo (ins S k x) (ins T k x) (n + 1)) = (decide (n = n') && sameTo S T n) := by
  rw [sameTo_ins S T n k x h]
  simp

set_option maxHeartbeats 1000000 in
theorem insertNames_any (a : Option Addr) (n c k : Nat) (x : ByteArray) (S : Nat → ByteArray) (w : World) (hS : StrRow w a n S) (hk : k ≤ n) (hsm : n ≤ 70000) (hx : x.size ≤ maxLen) :
    Calls Try.prog 19 #[.slice a n c, .int .i64 k, .string x] w fun e w' => e = .returned (.slice (some ⟨w.heap.size, 0, none⟩) (n + 1) (n + 1)) ∧ Below w.heap.size w w' ∧ StrRow w' (some ⟨w.heap.size, 0, none⟩) (n + 1) (ins S k x) := by
  have hS0 := hS
  obtain ⟨_, hS⟩ := hS
  obtain ⟨i0, hi, hz0, hz1, hz2⟩ := info_parts Try.info9
  go_enter Try.func19, Try.ntmps19
  go_wp2_with (at_make; refine wpList_make_own _ rfl _ _ 29 rfl w.heap.size 9 i0 (.string ByteArray.empty) 1 Try.underlying29 hi hz0 hz1 _ _ _ (n + 1) rfl rfl (by omega) ?b2 ?b3 (Nat.le_refl _) ?_)
  case b2 => rw [hz2]; omega
  case b3 => unfold maxLen; omega
  intro w0 hown0 hgrow0
  go_wp2
  go_loopw [7, 8] (fun out si wr => ∃ i : Nat, i ≤ k ∧ si = .int .i64 i ∧ out = .slice (some ⟨w.heap.size, 0, none⟩) i (n + 1) ∧
      wr.ownsRow w.heap.size 9 1 (.slice (some ⟨w.heap.size, 0, none⟩) i (n + 1)) i ((List.range i).map fun j => Value.string (ins S k x j)) ∧ Below w.heap.size w wr)
    (fun _ si _ => k - (intOf si).toNat)
  case atStart => exact ⟨0, Nat.zero_le _, rfl, rfl, hown0, (Below.refl _ _).grown hgrow0 (Nat.le_refl _) (fun k h => by cases h)⟩
  case round =>
    clear hown0 hgrow0
    obtain ⟨i, hik, rfl, rfl, hown, hnx⟩ := hrel
    by_cases hlt : i < k
    · obtain ⟨b, off, rfl, _, hc⟩ := hS.resolve_left (by omega)
      have h1 := cell_later hnx (hc i (by omega)).1
      clear hc hS hS0
      have hin : i < n := by omega
      go_wp2_with (at_builtin; refine wpList_append_fits _ rfl _ _ 29 rfl w.heap.size 9 i0 1 Try.underlying29 hi hz1 w.heap.size i (n + 1) _ rfl (hown.alloc _) ⟨wr.heap.size, 0, none⟩ 1 1 [Value.string (S i)] rfl rfl (one_new _ _ _) (by intro u hu; simp at hu; subst hu; rfl) (by omega) ?_; intro w1 hown1 hgrow1)
      go_roundw
      case rel => exact ⟨i + 1, by omega, by go_num, rfl, by rw [List.range_succ, List.map_append]; simpa [ins, hlt] using hown1, (hnx.alloc hnx.size _).grown hgrow1 (by simp; have := hnx.size; omega) (fun k hk => by cases hk; exact Nat.le_refl _)⟩
      case measure => simp [intOf]; omega
    · obtain rfl : i = k := by omega
      clear hlt hik
      go_wp2_with (at_builtin; refine wpList_append_fits _ rfl _ _ 29 rfl w.heap.size 9 i0 1 Try.underlying29 hi hz1 w.heap.size i (n + 1) _ rfl (hown.alloc _) ⟨wr.heap.size, 0, none⟩ 1 1 [Value.string x] rfl rfl (one_new _ _ _) (by intro u hu; simp at hu; subst hu; rfl) (by omega) ?_; intro w1 hown1 hgrow1)
      have hb1 := (hnx.alloc hnx.size _).grown hgrow1 (by simp; have := hnx.size; omega) (fun k hk => by cases hk; exact Nat.le_refl _)
      have HO : Hid (w1.ownsRow w.heap.size 9 1 (.slice (some ⟨w.heap.size, 0, none⟩) (i + 1) (n + 1)) (i + 1) ((List.range (i + 1)).map fun j => Value.string (ins S i x j))) := by
        show World.ownsRow _ _ _ _ _ _ _
        rw [List.range_succ, List.map_append]
        simpa [ins] using hown1
      clear hown hnx hown1 hgrow1
      go_loopw [7, 9] (fun out si wr => ∃ m : Nat, i ≤ m ∧ m ≤ n ∧ si = .int .i64 m ∧ out = .slice (some ⟨w.heap.size, 0, none⟩) (m + 1) (n + 1) ∧
          wr.ownsRow w.heap.size 9 1 (.slice (some ⟨w.heap.size, 0, none⟩) (m + 1) (n + 1)) (m + 1) ((List.range (m + 1)).map fun j => Value.string (ins S i x j)) ∧ Below w.heap.size w wr)
        (fun _ si _ => n - (intOf si).toNat)
      case atStart => exact ⟨i, Nat.le_refl _, hk, rfl, rfl, HO.out, hb1⟩
      case round =>
        clear HO hb1
        obtain ⟨m, him, hmn, rfl, rfl, hown, hnx⟩ := hrel
        by_cases hlt : m < n
        · obtain ⟨b, off, rfl, _, hc⟩ := hS.resolve_left (by omega)
          have h1 := cell_later hnx (hc m hlt).1
          clear hc hS hS0
          go_wp2_with (at_builtin; refine wpList_append_fits _ rfl _ _ 29 rfl w.heap.size 9 i0 1 Try.underlying29 hi hz1 w.heap.size (m + 1) (n + 1) _ rfl (hown.alloc _) ⟨wr.heap.size, 0, none⟩ 1 1 [Value.string (S m)] rfl rfl (one_new _ _ _) (by intro u hu; simp at hu; subst hu; rfl) (by omega) ?_; intro w1 hown1 hgrow1)
          have e1 : ins S i x (m + 1) = S m := by unfold ins; rw [if_neg (by omega), if_neg (by omega)]; simp
          go_roundw
          case rel => exact ⟨m + 1, by omega, by omega, by go_num, rfl, by rw [List.range_succ, List.map_append]; simpa [e1] using hown1, (hnx.alloc hnx.size _).grown hgrow1 (by simp; have := hnx.size; omega) (fun k hk => by cases hk; exact Nat.le_refl _)⟩
          case measure => simp [intOf]; omega
        · obtain rfl : m = n := by omega
          clear hS hlt
          go_wp2
          go_ret
          refine ⟨rfl, hnx, insRow_strs hown hS0 hx (by omega) hsm⟩

set_option maxHeartbeats 1000000 in
theorem insertPrices_any (a : Option Addr) (n c k : Nat) (x : Int) (S : Nat → Int) (w : World) (hS : IntRow w a n S) (hk : k ≤ n) (hsm : n ≤ 70000) :
    Calls Try.prog 20 #[.slice a n c, .int .i64 k, .int .i64 x] w fun e w' => e = .returned (.slice (some ⟨w.heap.size, 0, none⟩) (n + 1) (n + 1)) ∧ Below w.heap.size w w' ∧ IntRow w' (some ⟨w.heap.size, 0, none⟩) (n + 1) (ins S k x) := by
  have hS0 := hS
  obtain ⟨_, hS⟩ := hS
  obtain ⟨i0, hi, hz0, hz1, hz2⟩ := info_parts Try.info2
  go_enter Try.func20, Try.ntmps20
  go_wp2_with (at_make; refine wpList_make_own _ rfl _ _ 32 rfl w.heap.size 2 i0 (.int .i64 0) 1 Try.underlying32 hi hz0 hz1 _ _ _ (n + 1) rfl rfl (by omega) ?b2 ?b3 (Nat.le_refl _) ?_)
  case b2 => rw [hz2]; omega
  case b3 => unfold maxLen; omega
  intro w0 hown0 hgrow0
  go_wp2
  go_loopw [7, 8] (fun out si wr => ∃ i : Nat, i ≤ k ∧ si = .int .i64 i ∧ out = .slice (some ⟨w.heap.size, 0, none⟩) i (n + 1) ∧
      wr.ownsRow w.heap.size 2 1 (.slice (some ⟨w.heap.size, 0, none⟩) i (n + 1)) i ((List.range i).map fun j => Value.int .i64 (ins S k x j)) ∧ Below w.heap.size w wr)
    (fun _ si _ => k - (intOf si).toNat)
  case atStart => exact ⟨0, Nat.zero_le _, rfl, rfl, hown0, (Below.refl _ _).grown hgrow0 (Nat.le_refl _) (fun k h => by cases h)⟩
  case round =>
    clear hown0 hgrow0
    obtain ⟨i, hik, rfl, rfl, hown, hnx⟩ := hrel
    by_cases hlt : i < k
    · obtain ⟨b, off, rfl, _, hc⟩ := hS.resolve_left (by omega)
      have h1 := cell_later hnx (hc i (by omega))
      clear hc hS hS0
      have hin : i < n := by omega
      go_wp2_with (at_builtin; refine wpList_append_fits _ rfl _ _ 32 rfl w.heap.size 2 i0 1 Try.underlying32 hi hz1 w.heap.size i (n + 1) _ rfl (hown.alloc _) ⟨wr.heap.size, 0, none⟩ 1 1 [Value.int .i64 (S i)] rfl rfl (one_new _ _ _) (by intro u hu; simp at hu; subst hu; rfl) (by omega) ?_; intro w1 hown1 hgrow1)
      go_roundw
      case rel => exact ⟨i + 1, by omega, by go_num, rfl, by rw [List.range_succ, List.map_append]; simpa [ins, hlt] using hown1, (hnx.alloc hnx.size _).grown hgrow1 (by simp; have := hnx.size; omega) (fun k hk => by cases hk; exact Nat.le_refl _)⟩
      case measure => simp [intOf]; omega
    · obtain rfl : i = k := by omega
      clear hlt hik
      go_wp2_with (at_builtin; refine wpList_append_fits _ rfl _ _ 32 rfl w.heap.size 2 i0 1 Try.underlying32 hi hz1 w.heap.size i (n + 1) _ rfl (hown.alloc _) ⟨wr.heap.size, 0, none⟩ 1 1 [Value.int .i64 x] rfl rfl (one_new _ _ _) (by intro u hu; simp at hu; subst hu; rfl) (by omega) ?_; intro w1 hown1 hgrow1)
      have hb1 := (hnx.alloc hnx.size _).grown hgrow1 (by simp; have := hnx.size; omega) (fun k hk => by cases hk; exact Nat.le_refl _)
      have HO : Hid (w1.ownsRow w.heap.size 2 1 (.slice (some ⟨w.heap.size, 0, none⟩) (i + 1) (n + 1)) (i + 1) ((List.range (i + 1)).map fun j => Value.int .i64 (ins S i x j))) := by
        show World.ownsRow _ _ _ _ _ _ _
        rw [List.range_succ, List.map_append]
        simpa [ins] using hown1
      clear hown hnx hown1 hgrow1
      go_loopw [7, 9] (fun out si wr => ∃ m : Nat, i ≤ m ∧ m ≤ n ∧ si = .int .i64 m ∧ out = .slice (some ⟨w.heap.size, 0, none⟩) (m + 1) (n + 1) ∧
          wr.ownsRow w.heap.size 2 1 (.slice (some ⟨w.heap.size, 0, none⟩) (m + 1) (n + 1)) (m + 1) ((List.range (m + 1)).map fun j => Value.int .i64 (ins S i x j)) ∧ Below w.heap.size w wr)
        (fun _ si _ => n - (intOf si).toNat)
      case atStart => exact ⟨i, Nat.le_refl _, hk, rfl, rfl, HO.out, hb1⟩
      case round =>
        clear HO hb1
        obtain ⟨m, him, hmn, rfl, rfl, hown, hnx⟩ := hrel
        by_cases hlt : m < n
        · obtain ⟨b, off, rfl, _, hc⟩ := hS.resolve_left (by omega)
          have h1 := cell_later hnx (hc m hlt)
          clear hc hS hS0
          go_wp2_with (at_builtin; refine wpList_append_fits _ rfl _ _ 32 rfl w.heap.size 2 i0 1 Try.underlying32 hi hz1 w.heap.size (m + 1) (n + 1) _ rfl (hown.alloc _) ⟨wr.heap.size, 0, none⟩ 1 1 [Value.int .i64 (S m)] rfl rfl (one_new _ _ _) (by intro u hu; simp at hu; subst hu; rfl) (by omega) ?_; intro w1 hown1 hgrow1)
          have e1 : ins S i x (m + 1) = S m := by unfold ins; rw [if_neg (by omega), if_neg (by omega)]; simp
          go_roundw
          case rel => exact ⟨m + 1, by omega, by omega, by go_num, rfl, by rw [List.range_succ, List.map_append]; simpa [e1] using hown1, (hnx.alloc hnx.size _).grown hgrow1 (by simp; have := hnx.size; omega) (fun k hk => by cases hk; exact Nat.le_refl _)⟩
          case measure => simp [intOf]; omega
        · obtain rfl : m = n := by omega
          clear hS hlt
          go_wp2
          go_ret
          refine ⟨rfl, hnx, insRow_ints hown hsm⟩

end Go.Proofs.Qxb6608971a
