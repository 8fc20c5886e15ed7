/-
  The maps of a session: looked up when empty, when they hold the one table; the one entry put in.
-/
import Derived.Test.Qxb6609098aSess
import Derived.LaidEql
namespace Go.Proofs.Qxb6609098a
open Go.RowKit

theorem getMap {W : World} {b : Nat} {es : Array MapEntry} {ck : Nat} (h : W.heap[b]? = some (.map es ck)) : (getObj b).run Try.prog W = .ok (.map es ck) W := by
  simp [getObj, Sem.run, h]
theorem setMap {W : World} {b : Nat} {es : Array MapEntry} {ck : Nat} (o : Obj) (h : W.heap[b]? = some (.map es ck)) : (setObj b o).run Try.prog W = .ok () { W with heap := W.heap.setIfInBounds b o } := by
  simp [setObj, Sem.run, h]

theorem look_empty (T b ck : Nat) (W : World) (h : W.heap[b]? = some (.map #[] ck)) : (Instr.lookup 133 (.map (some b)) (.pointer (some ⟨T, 0, none⟩)) true).run Try.prog W = .ok (.tuple #[.pointer none, .bool false]) W := by
  simp [Instr.lookup, Try.runUnderlying133, checkKey_ptr, Instr.findKey, Instr.findNow, Try.runUnderlying54, Try.zeroValue158, getMap h]

theorem eq_step (d T : Nat) (W : World) : (Op.equalIn (d + 1) 54 (.pointer (some ⟨T, 0, none⟩)) (.pointer (some ⟨T, 0, none⟩))).run Try.prog W = .ok true W := by
  simp [Op.equalIn, Try.runUnderlying54, Try.sizeOf157, run_sameAddr_same]
theorem eq_ptr (T : Nat) (W : World) : (Op.equal 54 (.pointer (some ⟨T, 0, none⟩)) (.pointer (some ⟨T, 0, none⟩))).run Try.prog W = .ok true W := eq_step 9999 T W

theorem look_one (T b ck bn : Nat) (v : Value) (W : World) (h : W.heap[b]? = some (.map #[{ key := .pointer (some ⟨T, 0, none⟩), val := v, born := bn }] ck)) : (Instr.lookup 106 (.map (some b)) (.pointer (some ⟨T, 0, none⟩)) true).run Try.prog W = .ok (.tuple #[v, .bool true]) W := by
  simp [Instr.lookup, Try.runUnderlying106, checkKey_ptr, Instr.findKey, Instr.findNow, Instr.sameNow, Instr.findAsking, Try.runUnderlying54, getMap h, eq_ptr]

theorem put_one (T b ck : Nat) (v : Value) (W : World) (h : W.heap[b]? = some (.map #[] ck)) : (Instr.mapUpdate 106 (.map (some b)) (.pointer (some ⟨T, 0, none⟩)) v).run Try.prog W = .ok () { W with heap := W.heap.setIfInBounds b (.map #[{ key := .pointer (some ⟨T, 0, none⟩), val := v, born := ck }] (ck + 1)) } := by
  simp [Instr.mapUpdate, Try.runUnderlying106, checkKey_ptr, Instr.findKey, Instr.findNow, Try.runUnderlying54, getMap h, setMap _ h]

end Go.Proofs.Qxb6609098a
