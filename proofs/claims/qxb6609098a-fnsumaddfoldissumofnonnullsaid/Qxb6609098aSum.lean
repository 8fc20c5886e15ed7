/-
  The walks of the sum's helpers: ZZnewSum, ZZsumAdd, ZZsumTotal, ZZsumAny, zzSumVal, zzSumFold, zzSumModel, and the bounds on total length.
-/
import Derived.Test.Qxb6609098aBase
namespace Go.Proofs.Qxb6609098a
open Go.RowKit

/-- Is the k-th value NULL? -/
def isN (m : Nat) (N : Nat → Bool) (k : Nat) : Bool := decide (k < m) && N k
/-- What the k-th value adds. -/
def gv (m : Nat) (N : Nat → Bool) (V : Nat → Int) (k : Nat) : Int := if isN m N k then 0 else V k
/-- The sum of k terms from a on; is there one that is not NULL? -/
def sumF (g : Nat → Int) (a : Nat) : Nat → Int
  | 0 => 0
  | k + 1 => sumF g a k + g (a + k)
def anyF (c : Nat → Bool) (a : Nat) : Nat → Bool
  | 0 => false
  | k + 1 => anyF c a k || !c (a + k)

theorem wrap_add (a b : Int) : wrap64 (wrap64 a + b) = wrap64 (a + b) := by unfold wrap64; omega
theorem wrap_add_right (a b : Int) : wrap64 (a + wrap64 b) = wrap64 (a + b) := by unfold wrap64; omega
theorem wrap_zero : wrap64 0 = 0 := by unfold wrap64; omega

theorem sumF_left (g : Nat → Int) (a k : Nat) : sumF g a (k + 1) = g a + sumF g (a + 1) k := by
  induction k with
  | zero => simp [sumF]
  | succ k ih =>
    rw [sumF, ih, sumF, show a + (k + 1) = a + 1 + k by omega]
    omega
theorem anyF_left (c : Nat → Bool) (a k : Nat) : anyF c a (k + 1) = (!c a || anyF c (a + 1) k) := by
  induction k with
  | zero => simp [anyF]
  | succ k ih => rw [anyF, ih, anyF, show a + (k + 1) = a + 1 + k by omega, Bool.or_assoc]
theorem sumF_add (g : Nat → Int) (a k m : Nat) : sumF g a (k + m) = sumF g a k + sumF g (a + k) m := by
  induction m with
  | zero => simp [sumF]
  | succ m ih => rw [← Nat.add_assoc, sumF, ih, sumF, Nat.add_assoc a k m]; omega
theorem anyF_add (c : Nat → Bool) (a k m : Nat) : anyF c a (k + m) = (anyF c a k || anyF c (a + k) m) := by
  induction m with
  | zero => simp [anyF]
  | succ m ih => rw [← Nat.add_assoc, anyF, ih, anyF, Nat.add_assoc a k m, Bool.or_assoc]

theorem newSum_any (w : World) : Calls Try.prog 11 #[] w fun e w' => e = .returned (.pointer (some ⟨w.heap.size, 0, none⟩)) ∧ SumAt w' w.heap.size 0 false ∧ Below w.heap.size w w' := by
  go_enter Try.func11, Try.ntmps11
  go_wp2
  go_ret
  refine ⟨rfl, ?_, (Below.refl _ _).alloc (Nat.le_refl _) _⟩
  refine World.rowIs_alloc w _ 74 _ (fun i hi => ?_)
  match i, hi with
  | 0, _ => rfl
  | 1, _ => rfl

theorem sumTotal_any (B : Nat) (t : Int) (u : Bool) (w : World) (h : SumAt w B t u) : Calls Try.prog 15 #[.pointer (some ⟨B, 0, none⟩)] w fun e w' => e = .returned (.int .i64 t) ∧ w' = w := by
  obtain ⟨h0, h1, _, _, _⟩ := h.cells
  go_enter Try.func15, Try.ntmps15
  go_wp2
  go_ret
  exact ⟨rfl, rfl⟩

theorem sumAny_any (B : Nat) (t : Int) (u : Bool) (w : World) (h : SumAt w B t u) : Calls Try.prog 16 #[.pointer (some ⟨B, 0, none⟩)] w fun e w' => e = .returned (.bool u) ∧ w' = w := by
  obtain ⟨h0, h1, _, _, _⟩ := h.cells
  go_enter Try.func16, Try.ntmps16
  go_wp2
  go_ret
  exact ⟨rfl, rfl⟩

theorem sumAdd_null (B : Nat) (x : Int) (s : ByteArray) (w : World) :
    Calls Try.prog 13 #[.pointer (some ⟨B, 0, none⟩), .agg #[.int .u8 0, .int .i64 x, .string s]] w fun e w' => e = .returned (.tuple #[]) ∧ Below w.heap.size w w' := by
  go_enter Try.func13, Try.ntmps13
  go_wp2_with fail
  refine (add_null B x s _).mono ?_
  rintro e w1 ⟨rfl, hb⟩
  go_wp2
  go_end0
  exact ⟨rfl, ((Below.refl _ _).alloc (Nat.le_refl _) _).trans (hb.mono (by simp))⟩

theorem sumAdd_int (B : Nat) (t x : Int) (u : Bool) (s : ByteArray) (w : World) (h : SumAt w B t u) :
    Calls Try.prog 13 #[.pointer (some ⟨B, 0, none⟩), .agg #[.int .u8 1, .int .i64 x, .string s]] w fun e w' => e = .returned (.tuple #[]) ∧ SumAt w' B (wrap64 (t + x)) true ∧ w.grownBy w' (some B) := by
  go_enter Try.func13, Try.ntmps13
  go_wp2_with fail
  refine (add_int B t x u s _ (World.rowIs.alloc h _)).mono ?_
  rintro e w1 ⟨rfl, h1, hg⟩
  go_wp2
  go_end0
  exact ⟨rfl, h1, grown_trans (World.grownBy_alloc _ _ _) hg⟩

set_option maxHeartbeats 400000 in
theorem sumVal_null (a a' : Option Addr) (n c m c' k : Nat) (N : Nat → Bool) (w : World) (hN : BoolRow w a' m N) (hk : isN m N k = true) :
    Calls Try.prog 14 #[.slice a n c, .slice a' m c', .int .i64 k] w fun e w' => e = .returned (.agg #[.int .u8 0, .int .i64 0, .string ⟨#[]⟩]) ∧ Below w.heap.size w w' := by
  obtain ⟨_, hN⟩ := hN
  unfold isN at hk
  have hkm : k < m := by simp at hk; exact hk.1
  have hNk : N k = true := by simp at hk; exact hk.2
  clear hk
  obtain ⟨b, off, rfl, hlt, hc⟩ := hN.resolve_left (by omega)
  have h1 := hc k hkm
  rw [hNk] at h1
  clear hc hN
  go_enter Try.func14, Try.ntmps14
  go_wp2
  exact bodyPost_ret (v := .agg #[.int .u8 0, .int .i64 0, .string ⟨#[]⟩]) (by simp [results, Try.results14, go_sem]) rfl ⟨rfl, (Below.refl _ _).alloc (Nat.le_refl _) _⟩

set_option maxHeartbeats 400000 in
theorem sumVal_int (a a' : Option Addr) (n c m c' k : Nat) (V : Nat → Int) (N : Nat → Bool) (w : World) (hV : IntRow w a n V) (hN : BoolRow w a' m N) (hkn : k < n) (hk : isN m N k = false) :
    Calls Try.prog 14 #[.slice a n c, .slice a' m c', .int .i64 k] w fun e w' => e = .returned (.agg #[.int .u8 1, .int .i64 (V k), .string ⟨#[]⟩]) ∧ Below w.heap.size w w' := by
  obtain ⟨_, hN⟩ := hN
  obtain ⟨_, hV⟩ := hV
  unfold isN at hk
  obtain ⟨b, off, rfl, hlt, hc⟩ := hV.resolve_left (by omega)
  have h1 := hc k hkn
  clear hc hV
  by_cases hkm : k < m
  · have hNk : N k = false := by simpa [hkm] using hk
    clear hk
    obtain ⟨b', off', rfl, hlt', hc'⟩ := hN.resolve_left (by omega)
    have h2 := hc' k hkm
    rw [hNk] at h2
    clear hc' hN
    go_enter Try.func14, Try.ntmps14
    go_wp2_with (go_at_call 36; refine (int_any _ _).mono ?_; rintro e w1 ⟨rfl, rfl⟩)
    exact bodyPost_ret (v := .agg #[.int .u8 1, .int .i64 (V k), .string ⟨#[]⟩]) (by simp [results, Try.results14, go_sem]) rfl ⟨rfl, ((Below.refl _ _).alloc (Nat.le_refl _) _).alloc (by simp) _⟩
  · have hd : decide ((k : Int) < (m : Int)) = false := decide_eq_false (by omega)
    clear hk hN
    go_enter Try.func14, Try.ntmps14
    go_wp2_with (go_at_call 36; refine (int_any _ _).mono ?_; rintro e w1 ⟨rfl, rfl⟩)
    exact bodyPost_ret (v := .agg #[.int .u8 1, .int .i64 (V k), .string ⟨#[]⟩]) (by simp [results, Try.results14, go_sem]) rfl ⟨rfl, ((Below.refl _ _).alloc (Nat.le_refl _) _).alloc (by simp) _⟩

set_option maxHeartbeats 800000 in
/-- The fold from fr to hi: what it adds, and where. -/
theorem sumFold_any (B : Nat) (a a' : Option Addr) (n c m c' fr hi : Nat) (t : Int) (u : Bool) (V : Nat → Int) (N : Nat → Bool) (w0 w : World) (hV : IntRow w0 a n V) (hN : BoolRow w0 a' m N) (hb0 : Below w0.heap.size w0 w) (hB : w0.heap.size ≤ B) (hS : SumAt w B (wrap64 t) u) (hfd : fr ≤ hi) (hin : hi ≤ n) :
    Calls Try.prog 12 #[.pointer (some ⟨B, 0, none⟩), .slice a n c, .slice a' m c', .int .i64 fr, .int .i64 hi] w fun e w' => e = .returned (.tuple #[]) ∧ SumAt w' B (wrap64 (t + sumF (gv m N V) fr (hi - fr))) (u || anyF (isN m N) fr (hi - fr)) ∧ w.grownBy w' (some B) := by
  have hn : n ≤ 2 ^ 63 - 1 := hV.1
  go_enter Try.func12, Try.ntmps12
  go_wp2
  go_loopw [10] (fun i wr => ∃ k : Nat, fr ≤ k ∧ k ≤ hi ∧ i = .int .i64 k ∧ SumAt wr B (wrap64 (t + sumF (gv m N V) fr (k - fr))) (u || anyF (isN m N) fr (k - fr)) ∧ w.grownBy wr (some B)) (fun i _ => hi - (intOf i).toNat)
  case atStart => exact ⟨fr, Nat.le_refl _, hfd, rfl, by simpa [sumF, anyF] using hS, World.grownBy.refl _ _⟩
  case round =>
    obtain ⟨k, hfk, hk, rfl, hs, hg⟩ := hrel
    clear hS
    by_cases hlt : k < hi
    · have hbr : Below w0.heap.size w0 wr := hb0.grown hg hb0.size (fun j hj => by cases hj; exact hB)
      have hVr := hV.later hbr
      have hNr := hN.later hbr
      clear hV hN
      have HE : Hid (k + 1 - fr = (k - fr) + 1 ∧ fr + (k - fr) = k) := by show _ ∧ _; omega
      cases hq : isN m N k
      · have HQ : Hid (isN m N k = false) := hq
        clear hq
        go_wp2_with fail
        refine (sumVal_int a a' n c m c' k V N _ hVr hNr (by omega) HQ.out).mono ?_
        rintro e w1 ⟨rfl, hb1⟩
        go_wp2_with fail
        refine (sumAdd_int B _ _ _ _ _ (hs.later hb1)).mono ?_
        rintro e w2 ⟨rfl, hs2, hg2⟩
        rw [wrap_add] at hs2
        go_wp2
        go_roundw
        case rel => exact ⟨k + 1, by omega, by omega, by go_num, by rw [HE.out.1, sumF, anyF, HE.out.2, HQ.out, gv, HQ.out]; simpa [Int.add_assoc] using hs2, grown_trans hg (grown_trans (below_grown hb1) hg2)⟩
        case measure => simp [intOf]; omega
      · have HQ : Hid (isN m N k = true) := hq
        clear hq
        go_wp2_with fail
        refine (sumVal_null a a' n c m c' k N _ hNr HQ.out).mono ?_
        rintro e w1 ⟨rfl, hb1⟩
        go_wp2_with fail
        refine (sumAdd_null B _ _ _).mono ?_
        rintro e w2 ⟨rfl, hb2⟩
        go_wp2
        go_roundw
        case rel => exact ⟨k + 1, by omega, by omega, by go_num, by rw [HE.out.1, sumF, anyF, HE.out.2, HQ.out, gv, HQ.out]; simpa using (hs.later hb1).later hb2, grown_trans hg (grown_trans (below_grown hb1) (below_grown hb2))⟩
        case measure => simp [intOf]; omega
    · clear hV hN
      go_wp2
      go_end0
      obtain rfl : k = hi := by omega
      exact ⟨rfl, hs, hg⟩

set_option maxHeartbeats 800000 in
theorem sumModel_any (a a' : Option Addr) (n c m c' : Nat) (V : Nat → Int) (N : Nat → Bool) (w : World) (hV : IntRow w a n V) (hN : BoolRow w a' m N) :
    Calls Try.prog 10 #[.slice a n c, .slice a' m c'] w fun e w' => e = .returned (.tuple #[.int .i64 (wrap64 (sumF (gv m N V) 0 n)), .bool (anyF (isN m N) 0 n)]) ∧ w' = w := by
  obtain ⟨hn, hV⟩ := hV
  obtain ⟨hm, hN⟩ := hN
  unfold maxLen at hn hm
  go_enter Try.func10, Try.ntmps10
  go_wp2
  go_loop [6, 7, 8] (fun s t i => ∃ k : Nat, k ≤ n ∧ s = .int .i64 (wrap64 (sumF (gv m N V) 0 k)) ∧ t = .bool (anyF (isN m N) 0 k) ∧ i = .int .i64 k) (fun _ _ i => n - (intOf i).toNat)
  case atStart => exact ⟨0, Nat.zero_le _, by rw [sumF, wrap_zero], rfl, rfl⟩
  case round =>
    obtain ⟨k, hk, rfl, rfl, rfl⟩ := hrel
    by_cases hlt : k < n
    · obtain ⟨b, off, rfl, _, hc⟩ := hV.resolve_left (by omega)
      have h1 := hc k hlt
      clear hc hV
      generalize hS : sumF (gv m N V) 0 k = sk
      generalize hU : anyF (isN m N) 0 k = uk
      have HS : Hid (sumF (gv m N V) 0 k = sk) := hS
      have HU : Hid (anyF (isN m N) 0 k = uk) := hU
      clear hS hU
      by_cases hkm : k < m
      · obtain ⟨b', off', rfl, _, hc'⟩ := hN.resolve_left (by omega)
        have h2 := hc' k hkm
        clear hc' hN
        cases hq : N k
        · rw [hq] at h2
          have HQ : Hid (isN m N k = false) := by show isN m N k = false; simp [isN, hq]
          clear hq
          go_wp2
          go_round
          case rel => exact ⟨k + 1, by omega, by rw [sumF, HS.out, gv, Nat.zero_add, HQ.out]; simp [wrap_add], by rw [anyF, Nat.zero_add, HQ.out]; simp, by go_num⟩
          case measure => simp [intOf]; omega
        · rw [hq] at h2
          have HQ : Hid (isN m N k = true) := by show isN m N k = true; simp [isN, hq, hkm]
          clear hq
          go_wp2
          go_round
          case rel => exact ⟨k + 1, by omega, by rw [sumF, HS.out, gv, Nat.zero_add, HQ.out]; simp, by rw [anyF, Nat.zero_add, HQ.out, HU.out]; simp, by go_num⟩
          case measure => simp [intOf]; omega
      · have hd : decide ((k : Int) < (m : Int)) = false := decide_eq_false (by omega)
        have HQ : Hid (isN m N k = false) := by show isN m N k = false; simp [isN, hkm]
        clear hN
        go_wp2
        go_round
        case rel => exact ⟨k + 1, by omega, by rw [sumF, HS.out, gv, Nat.zero_add, HQ.out]; simp [wrap_add], by rw [anyF, Nat.zero_add, HQ.out]; simp, by go_num⟩
        case measure => simp [intOf]; omega
    · clear hV hN
      obtain rfl : k = n := by omega
      go_wp2
      go_ret2
      exact ⟨rfl, rfl⟩

/-- It returns some bool. -/
def RetBool (e : Ending) : Prop := ∃ r : Bool, e = .returned (.bool r)

theorem bytes9_any (a a' : Option Addr) (n c m c' : Nat) (w : World) (hn : n ≤ maxLen) (hm : m ≤ maxLen) :
    Calls Try.prog 9 #[.slice a n c, .slice a' m c'] w fun e w' => RetBool e ∧ w' = w := by
  unfold maxLen at hn hm
  go_enter Try.func9, Try.ntmps9
  go_wp2
  all_goals (go_ret; exact ⟨⟨_, rfl⟩, rfl⟩)

theorem bytes17_any (a a' : Option Addr) (n c m c' : Nat) (k : Int) (w : World) (hn : n ≤ maxLen) (hm : m ≤ maxLen) :
    Calls Try.prog 17 #[.slice a n c, .slice a' m c', .int .i64 k] w fun e w' => RetBool e ∧ w' = w := by
  unfold maxLen at hn hm
  go_enter Try.func17, Try.ntmps17
  go_wp2
  all_goals (go_ret; exact ⟨⟨_, rfl⟩, rfl⟩)

end Go.Proofs.Qxb6609098a
