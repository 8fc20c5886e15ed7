/-
  zzBuildTable and ZZnewTable: a new table whose rows bear the numbers.
-/
import Derived.Test.Qxb6609098aItoa
namespace Go.Proofs.Qxb6609098a
open Go.RowKit

theorem Try.info125 : (Try.prog.info? 125).map (fun i => (i.zero, i.size, i.bytes)) = some (some (.agg #[.string ⟨#[]⟩, .int .u8 0, .int .u32 0, .int .u8 0]), 4, 32) := by kernel_rfl
theorem Try.info33 : (Try.prog.info? 33).map (fun i => (i.zero, i.size, i.bytes)) = some (some (.agg #[.int .u8 0, .int .i64 0, .string ⟨#[]⟩]), 3, 32) := by kernel_rfl
theorem Try.info126 : (Try.prog.info? 126).map (fun i => (i.zero, i.size, i.bytes)) = some (some (.slice none 0 0), 1, 24) := by kernel_rfl

/-- make of n elements, of whatever number of cells: the block bears a name, its cells are all there and not frozen. -/
theorem make_any {P : Program} (t e : TypeId) (z : Value) (size bytes : Nat) (ht : P.underlying t = some (.slice e)) (hinfo : (P.info? e).map (fun i => (i.zero, i.size, i.bytes)) = some (some z, size, bytes))
    (n : Nat) (hbytes : bytes * n ≤ 281474976710656) (h63 : n ≤ 9223372036854775807) :
    ∃ o : Obj, (∀ w, (Instr.makeSlice t (.int .i64 (n : Int)) (.int .i64 (n : Int))).run P w = .ok (.slice (some ⟨w.heap.size, 0, none⟩) n n) (w.alloc o)) ∧ ∀ w : World, ∃ f, (w.alloc o).rowIs w.heap.size e (n * size) f := by
  obtain ⟨i, hi, hzz⟩ := Option.map_eq_some_iff.1 hinfo
  simp only [Prod.mk.injEq] at hzz
  obtain ⟨hz, hs, hb⟩ := hzz
  have hb' : (i.bytes : Int) * (n : Int) ≤ 281474976710656 := by
    have h : ((i.bytes * n : Nat) : Int) ≤ 281474976710656 := by rw [hb]; omega
    rwa [Int.natCast_mul] at h
  refine ⟨.cells (madeCells z.cells (n * size)) e, fun w => ?_, fun w => ?_⟩
  · have hr := run_make (P := P) w t e i z ht hi hz .i64 .i64 n n (by omega) (Int.le_refl _) hb' (by omega)
    simp only [Int.toNat_natCast, hs] at hr
    exact hr
  · refine ⟨fun i => (madeCells z.cells (n * size))[i]!, ?_⟩
    have := World.rowIs_alloc w (madeCells z.cells (n * size)) e (fun i => (madeCells z.cells (n * size))[i]!) (fun i hi => by simp [getElem!_pos, hi])
    rwa [size_madeCells] at this

/-- Block g holds a row of SQL integers: the first l are the numbers z. -/
def ValRow (w : World) (g l : Nat) (z : Nat → Int) : Prop :=
  ∃ cur : Array Value, w.heap[g]? = some (.cells cur 33 (0, 0)) ∧ ∀ j, j < l → cur[j * 3]? = some (.int .u8 1) ∧ cur[j * 3 + 1]? = some (.int .i64 (z j)) ∧ ∃ s, cur[j * 3 + 2]? = some (.string s)

theorem ValRow.of_block {w w' : World} {g l : Nat} {z : Nat → Int} (h : ValRow w g l z) (e : w'.heap[g]? = w.heap[g]?) : ValRow w' g l z := by
  obtain ⟨cur, hg, hc⟩ := h
  exact ⟨cur, e.trans hg, hc⟩
theorem ValRow.lt {w : World} {g l : Nat} {z : Nat → Int} (h : ValRow w g l z) : g < w.heap.size := by
  obtain ⟨cur, hg, _⟩ := h
  exact (Array.getElem?_eq_some_iff.1 hg).1
theorem ValRow.later {w w' : World} {g l : Nat} {z : Nat → Int} (h : ValRow w g l z) (hb : Below w.heap.size w w') : ValRow w' g l z := h.of_block (hb.block _ h.lt)

/-- The same while it is filled: the first k of l. -/
def ValTo (w : World) (g l k : Nat) (z : Nat → Int) : Prop :=
  ∃ f, w.rowIs g 33 (l * 3) f ∧ ∀ j, j < k → f (j * 3) = .int .u8 1 ∧ f (j * 3 + 1) = .int .i64 (z j) ∧ ∃ s, f (j * 3 + 2) = .string s

theorem ValTo.done {w : World} {g l : Nat} {z : Nat → Int} (h : ValTo w g l l z) : ValRow w g l z := by
  obtain ⟨f, ⟨c, hg, hn, hc⟩, hf⟩ := h
  refine ⟨c, hg, fun j hj => ?_⟩
  obtain ⟨h1, h2, s, h3⟩ := hf j hj
  exact ⟨by rw [hc _ (by omega), h1], by rw [hc _ (by omega), h2], s, by rw [hc _ (by omega), h3]⟩

theorem valTo_step {w : World} {g l k : Nat} {z : Nat → Int} {s : ByteArray} (h : ValTo w g l k z) : ValTo (((w.setCell ⟨g, k * 3, none⟩ (.int .u8 1)).setCell ⟨g, k * 3 + 1, none⟩ (.int .i64 (z k))).setCell ⟨g, k * 3 + 2, none⟩ (.string s)) g l (k + 1) z := by
  obtain ⟨f, hr, hf⟩ := h
  refine ⟨_, ((hr.set (k * 3) (.int .u8 1)).set (k * 3 + 1) (.int .i64 (z k))).set (k * 3 + 2) (.string s), fun i hi => ?_⟩
  by_cases e : i = k
  · subst e
    exact ⟨by simp, by simp, s, by simp⟩
  · obtain ⟨h1, h2, v, h3⟩ := hf i (by omega)
    refine ⟨?_, ?_, v, ?_⟩
    · show (if i * 3 = k * 3 + 2 then _ else if i * 3 = k * 3 + 1 then _ else if i * 3 = k * 3 then _ else f (i * 3)) = _
      rw [if_neg (by omega), if_neg (by omega), if_neg (by omega)]; exact h1
    · show (if i * 3 + 1 = k * 3 + 2 then _ else if i * 3 + 1 = k * 3 + 1 then _ else if i * 3 + 1 = k * 3 then _ else f (i * 3 + 1)) = _
      rw [if_neg (by omega), if_neg (by omega), if_neg (by omega)]; exact h2
    · show (if i * 3 + 2 = k * 3 + 2 then _ else if i * 3 + 2 = k * 3 + 1 then _ else if i * 3 + 2 = k * 3 then _ else f (i * 3 + 2)) = _
      rw [if_neg (by omega), if_neg (by omega), if_neg (by omega)]; exact h3

theorem ValTo.alloc {w : World} {g l k : Nat} {z : Nat → Int} (h : ValTo w g l k z) (o : Obj) : ValTo (w.alloc o) g l k z := by
  obtain ⟨f, hr, hf⟩ := h
  exact ⟨f, hr.alloc o, hf⟩

/-- Block R is a row of n slices: the first k lead to rows that hold the numbers. -/
def VRows (w : World) (R n k : Nat) (L : Nat → Nat) (Z : Nat → Nat → Int) : Prop :=
  ∃ f, w.rowIs R 126 n f ∧ ∀ i, i < k → ∃ g, f i = .slice (some ⟨g, 0, none⟩) (L i) (L i) ∧ ValRow w g (L i) (Z i)

theorem VRows.later {w w' : World} {R n k : Nat} {L : Nat → Nat} {Z : Nat → Nat → Int} (h : VRows w R n k L Z) (hb : Below w.heap.size w w') : VRows w' R n k L Z := by
  obtain ⟨f, hr, hf⟩ := h
  refine ⟨f, hr.of_block (hb.block _ hr.lt), fun i hi => ?_⟩
  obtain ⟨g, hg, hv⟩ := hf i hi
  exact ⟨g, hg, hv.later hb⟩

theorem vRows_step {w : World} {R n k g : Nat} {L : Nat → Nat} {Z : Nat → Nat → Int} (h : VRows w R n k L Z) (hv : ValRow w g (L k) (Z k)) : VRows (w.setCell ⟨R, k, none⟩ (.slice (some ⟨g, 0, none⟩) (L k) (L k))) R n (k + 1) L Z := by
  obtain ⟨f, hr, hf⟩ := h
  have hne : ∀ g', ∀ l z, ValRow w g' l z → ValRow (w.setCell ⟨R, k, none⟩ (.slice (some ⟨g, 0, none⟩) (L k) (L k))) g' l z := by
    intro g' l z hz
    refine hz.of_block (Below.heap_setCell _ _ _ _ ?_)
    intro e
    obtain ⟨cur, h1, _⟩ := hz
    obtain ⟨c, h2, _⟩ := hr
    have e' : g' = R := e
    rw [e'] at h1
    rw [h1] at h2
    simp at h2
  refine ⟨_, hr.set k _, fun i hi => ?_⟩
  by_cases e : i = k
  · subst e
    exact ⟨g, by simp, hne _ _ _ hv⟩
  · obtain ⟨g', h1, h2⟩ := hf i (by omega)
    exact ⟨g', by show (if i = k then _ else f i) = _; rw [if_neg e]; exact h1, hne _ _ _ h2⟩

/-- The block of a table that nobody has locked, over the rows R. -/
def TableAt (w : World) (T R n : Nat) : Prop :=
  ∃ c0 : Value, w.heap[T]? = some (.cells #[c0, .int .i32 0, .int .u32 0, .int .u32 0, .int .u32 0, .int .i32 0, .int .i32 0, .slice (some ⟨R, 0, none⟩) n n] 157 (0, 0))

theorem TableAt.lt {w : World} {T R n : Nat} (h : TableAt w T R n) : T < w.heap.size := by
  obtain ⟨_, hg⟩ := h
  exact (Array.getElem?_eq_some_iff.1 hg).1
theorem TableAt.later {w w' : World} {T R n : Nat} (h : TableAt w T R n) (hb : Below w.heap.size w w') : TableAt w' T R n := by
  have hl := h.lt
  obtain ⟨c0, hg⟩ := h
  exact ⟨c0, (hb.block _ hl).trans hg⟩

theorem heap_new (w : World) (o : Obj) : (w.alloc o).heap[w.heap.size]? = some o := by
  show (w.heap.push o)[w.heap.size]? = _
  simp

theorem newTable_any (a : Value) (R n : Nat) (w : World) (ha : ∃ x l c, a = .slice x l c) :
    Calls Try.prog 41 #[a, .slice (some ⟨R, 0, none⟩) n n] w fun e w' => e = .returned (.pointer (some ⟨w.heap.size, 0, none⟩)) ∧ TableAt w' w.heap.size R n ∧ Below w.heap.size w w' := by
  obtain ⟨x, l, c, rfl⟩ := ha
  go_enter Try.func41, Try.ntmps41
  go_wp2
  go_ret
  exact ⟨rfl, ⟨_, heap_new _ _⟩, (Below.refl _ _).alloc (Nat.le_refl _) _⟩

set_option maxRecDepth 10000 in
set_option maxHeartbeats 2000000 in
theorem buildTable_any (a : Option Addr) (n c wd : Nat) (A : Nat → Option Addr) (L C : Nat → Nat) (Z : Nat → Nat → Int) (w : World) (hS : RowsArg w a n A L C Z) (hL : ∀ j, j < n → L j ≤ 1048576) (hn : n ≤ 65536) (hwd : wd ≤ 1048576) :
    Calls Try.prog 27 #[.slice a n c, .int .i64 wd] w fun e w' => ∃ T R, e = .returned (.pointer (some ⟨T, 0, none⟩)) ∧ TableAt w' T R n ∧ VRows w' R n n L Z ∧ Below w.heap.size w w' := by
  obtain ⟨o, hmk, ho⟩ := make_any 118 125 _ 4 32 Try.underlying118 Try.info125 wd (by omega) (by omega)
  obtain ⟨f0, hf0⟩ := ho w
  have HR : Hid (Below w.heap.size w (w.alloc o) ∧ ∃ f, (w.alloc o).rowIs w.heap.size 125 (wd * 4) f) := ⟨(Below.refl _ _).alloc (Nat.le_refl _) _, f0, hf0⟩
  clear ho hf0
  obtain ⟨o2, hmk2, ho2⟩ := make_any 64 126 _ 1 24 Try.underlying64 Try.info126 n (by omega) (by omega)
  have HO2 : Hid (∀ w : World, ∃ f, (w.alloc o2).rowIs w.heap.size 126 (n * 1) f) := ho2
  clear ho2
  have HL : Hid (∀ j, j < n → L j ≤ 1048576) := hL
  clear hL
  go_enter Try.func27, Try.ntmps27
  go_wp2
  go_loopw [6] (fun i wr => ∃ k : Nat, k ≤ wd ∧ i = .int .i64 k ∧ Below w.heap.size w wr ∧ ∃ f, wr.rowIs w.heap.size 125 (wd * 4) f) (fun i _ => wd - (intOf i).toNat)
  case atStart => exact ⟨0, Nat.zero_le _, rfl, HR.out⟩
  case round =>
    clear hmk HR
    obtain ⟨k, hk, rfl, hb, f, hrow⟩ := hrel
    by_cases hlt : k < wd
    · have hlti : (k : Int) < (wd : Int) := by omega
      go_wp2_with fail
      refine (itoa_any k (by omega) _).mono ?_
      rintro e w1 ⟨⟨s, rfl, hs⟩, hb1⟩
      have hrow1 := hrow.of_block (hb1.block _ hrow.lt)
      have hb2 := hb.trans (hb1.mono hb.size)
      have g0 := hrow1.cell (i := k * 4) (by omega)
      have g1 := hrow1.cell (i := k * 4 + 1) (by omega)
      have g2 := hrow1.cell (i := k * 4 + 2) (by omega)
      have g3 := hrow1.cell (i := k * 4 + 3) (by omega)
      have z0 := hrow1.frozen (k * 4)
      have z1 := hrow1.frozen (k * 4 + 1)
      have z2 := hrow1.frozen (k * 4 + 2)
      have z3 := hrow1.frozen (k * 4 + 3)
      have hs' : (s.size : Int) ≤ 20 := by omega
      clear hrow
      go_wp2
      go_roundw
      case rel => exact ⟨k + 1, by omega, by go_num, (((hb2.setCell (Nat.le_refl _) _).setCell (Nat.le_refl _) _).setCell (Nat.le_refl _) _).setCell (Nat.le_refl _) _, _, (((hrow1.set _ _).set _ _).set _ _).set _ _⟩
      case measure => simp [intOf]; omega
    · clear hrow hk
      obtain ⟨w1, rfl⟩ : ∃ w1, w1 = wr := ⟨_, rfl⟩
      have hS1 := hS.later hb
      obtain ⟨f2, hf2⟩ := HO2.out w1
      rw [Nat.mul_one] at hf2
      have HR2 : Hid (Below w.heap.size w (w1.alloc o2) ∧ VRows (w1.alloc o2) w1.heap.size n 0 L Z) := ⟨hb.alloc hb.size _, f2, hf2, fun i hi => by omega⟩
      have hle1 := hb.size
      clear HO2 hf2 hS
      obtain ⟨_, hS1⟩ := hS1
      have HB1 : Hid (Below w.heap.size w w1) := hb
      clear hb
      go_wp2
      go_loopw [8] (fun i wr => ∃ k : Nat, k ≤ n ∧ i = .int .i64 k ∧ Below w1.heap.size w1 wr ∧ VRows wr w1.heap.size n k L Z) (fun i _ => n - (intOf i).toNat)
      case atStart => exact ⟨0, Nat.zero_le _, rfl, (Below.refl _ _).alloc (Nat.le_refl _) _, HR2.out.2⟩
      case round =>
        clear hmk2 HR2
        obtain ⟨k, hk, rfl, hb, hv⟩ := hrel
        by_cases hlt : k < n
        · obtain ⟨b, off, rfl, hc⟩ := hS1.resolve_left (by omega)
          obtain ⟨h1, hlk, hrow⟩ := hc k hlt
          have hlk2 := HL.out k hlt
          obtain ⟨o3, hmk3, ho3⟩ := make_any 126 33 _ 3 32 Try.underlying126 Try.info33 (L k) (by omega) (by omega)
          obtain ⟨w2, rfl⟩ : ∃ w2, w2 = wr := ⟨_, rfl⟩
          replace h1 := cell_later hb h1
          obtain ⟨f3, hf3⟩ := ho3 w2
          have HR3 : Hid (ValTo (w2.alloc o3) w2.heap.size (L k) 0 (Z k)) := ⟨f3, hf3, fun i hi => by omega⟩
          clear ho3 hf3 hc hS1
          have hb1lt := World.block_lt_of_cell? _ _ h1
          have HV : Hid (VRows w2 w1.heap.size n k L Z) := hv
          clear hv
          go_wp2
          go_loopw [10] (fun i wi => ∃ j : Nat, j ≤ L k ∧ i = .int .i64 j ∧ Below w2.heap.size w2 wi ∧ ValTo wi w2.heap.size (L k) j (Z k)) (fun i _ => L k - (intOf i).toNat)
          case atStart => exact ⟨0, Nat.zero_le _, rfl, (Below.refl _ _).alloc (Nat.le_refl _) _, HR3.out⟩
          case round =>
            clear hmk3 HR3
            obtain ⟨j, hj, rfl, hbi, hvt⟩ := hrel
            obtain ⟨w3, rfl⟩ : ∃ w3, w3 = wr := ⟨_, rfl⟩
            have g1 := cell_later hbi h1
            by_cases hjl : j < L k
            · obtain ⟨b', off', hA, _, hc'⟩ := hrow.resolve_left (by omega)
              have h2 := cell_later hbi (cell_later hb (hc' j hjl))
              rw [hA] at g1
              clear hc' hrow h1 hA
              have hvt1 := hvt
              obtain ⟨f, hrr, _⟩ := hvt1
              have c0 := hrr.cell (i := j * 3) (by omega)
              have c1 := hrr.cell (i := j * 3 + 1) (by omega)
              have c2 := hrr.cell (i := j * 3 + 2) (by omega)
              have z0 := hrr.frozen (j * 3)
              have z1 := hrr.frozen (j * 3 + 1)
              have z2 := hrr.frozen (j * 3 + 2)
              have hg := hrr.lt
              clear hrr
              go_wp2_with (go_at_call 36; refine (int_any _ _).mono ?_; rintro e wq ⟨rfl, rfl⟩)
              go_roundw
              case rel => exact ⟨j + 1, by omega, by go_num, (((hbi.setCell (Nat.le_refl _) _).setCell (Nat.le_refl _) _).setCell (Nat.le_refl _) _).alloc (by simp [World.setCell]; exact hbi.size) _, (valTo_step hvt).alloc _⟩
              case measure => simp [intOf]; omega
            · obtain rfl : j = L k := by omega
              have hv3 : VRows w3 w1.heap.size n k L Z := HV.out.later hbi
              have hv4 := hv3
              obtain ⟨f, hrr, _⟩ := hv4
              have c0 := hrr.cell (i := k) hlt
              have z0 := hrr.frozen k
              have hb3 : Below w1.heap.size w1 w3 := hb.trans (hbi.mono hb.size)
              have hdn := hvt.done
              clear hrr hvt hbi hb hrow h1 HV
              go_wp2
              go_roundw
              case rel => exact ⟨k + 1, by omega, by go_num, hb3.setCell (Nat.le_refl _) _, vRows_step hv3 hdn⟩
              case measure => simp [intOf]; omega
        · obtain rfl : k = n := by omega
          clear hS1
          go_wp2_with fail
          refine (newTable_any _ _ _ _ ⟨_, _, _, rfl⟩).mono ?_
          rintro e w2 ⟨rfl, hT, hbT⟩
          go_wp2
          go_ret
          exact ⟨_, _, rfl, hT, hv.later hbT, HB1.out.trans ((hb.mono hle1).trans (hbT.mono (Nat.le_trans hle1 hb.size)))⟩

end Go.Proofs.Qxb6609098a
