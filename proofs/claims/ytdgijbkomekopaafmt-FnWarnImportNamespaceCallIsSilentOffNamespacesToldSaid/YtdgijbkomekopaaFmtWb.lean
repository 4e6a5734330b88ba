import Derived.Test.YtdgijbkomekopaaFmtWa
import Derived.Laws.StructEq
namespace Go.Proofs.YtdgijbkomekopaaFmt
open Go.RowKit

abbrev kref (a b : Int) : Value := .agg #[.int .u32 a, .int .u32 b]
abbrev kcc (a b c : Int) : Value := .agg #[.int .u32 a, .int .u32 b, .int .u8 c]
theorem check24 (e : Bool) (a b : Int) (w : World) : (Instr.checkKey e 10000 24 (kref a b)).run Tryf.prog w = .ok () w := by kernel_rfl
theorem check166 (e : Bool) (a b c : Int) (w : World) : (Instr.checkKey e 10000 166 (kcc a b c)).run Tryf.prog w = .ok () w := by kernel_rfl
theorem eq24 (a b c d : Int) (w : World) : (Op.equal 24 (kref a b) (kref c d)).run Tryf.prog w = .ok (a == c && b == d) w := by
  unfold Op.equal Op.maxDepth
  rw [run_equalIn_struct w 9999 24 _ _ (by kernel_rfl) (by kernel_rfl)]
  simp [go_sem]
  by_cases h : a = c <;> by_cases h' : b = d <;> simp [h, h']
theorem eq166 (a b c : Int) (w : World) : (Op.equal 166 (kcc a b c) (kcc a b c)).run Tryf.prog w = .ok true w := by
  unfold Op.equal Op.maxDepth
  rw [run_equalIn_struct w 9999 166 _ _ (by kernel_rfl) (by kernel_rfl)]
  simp [go_sem]

def setObj (w : World) (m : Nat) (o : Obj) : World := { w with heap := w.heap.setIfInBounds m o }

theorem find24 (a b c d : Int) (v : Value) (n : Nat) (w : World) : (Instr.findKey 24 (kref a b) [⟨kref c d, v, n⟩]).run Tryf.prog w = .ok (if a = c ∧ b = d then some (0, v) else none) w := by
  simp [Instr.findKey, run_underlying Tryf.underlying24, Instr.findNow, Instr.sameNow, Instr.findAsking, eq24]
  by_cases h : a = c <;> by_cases h' : b = d <;> simp [h, h']
theorem find24e (a b : Int) (w : World) : (Instr.findKey 24 (kref a b) []).run Tryf.prog w = .ok none w := by
  simp [Instr.findKey, run_underlying Tryf.underlying24, Instr.findNow]
theorem find166 (a b c : Int) (v : Value) (n : Nat) (w : World) : (Instr.findKey 166 (kcc a b c) [⟨kcc a b c, v, n⟩]).run Tryf.prog w = .ok (some (0, v)) w := by
  simp [Instr.findKey, run_underlying Tryf.underlying166, Instr.findNow, Instr.sameNow, Instr.findAsking, eq166]
theorem find166e (a b c : Int) (w : World) : (Instr.findKey 166 (kcc a b c) []).run Tryf.prog w = .ok none w := by
  simp [Instr.findKey, run_underlying Tryf.underlying166, Instr.findNow]

theorem getMap {P : Program} (m : Nat) (es : Array MapEntry) (c : Nat) (w : World) (h : w.heap[m]? = some (.map es c)) : (getObj m).run P w = .ok (.map es c) w := by
  simp [getObj, Sem.run, h]
theorem putMap {P : Program} (m : Nat) (es : Array MapEntry) (c : Nat) (o : Obj) (w : World) (h : w.heap[m]? = some (.map es c)) : (Go.setObj m o).run P w = .ok () (setObj w m o) := by
  simp [Go.setObj, Sem.run, h, setObj]

theorem upd43 (m : Nat) (a b : Int) (v : Value) (w : World) (h : w.heap[m]? = some (.map #[] 0)) :
    (Instr.mapUpdate 43 (.map (some m)) (kref a b) v).run Tryf.prog w = .ok () (setObj w m (.map #[⟨kref a b, v, 0⟩] 1)) := by
  simp [Instr.mapUpdate, run_underlying Tryf.underlying43, getMap m _ _ w h, check24, find24e, putMap m _ _ _ w h]
theorem upd137 (m : Nat) (a b c : Int) (v : Value) (w : World) (h : w.heap[m]? = some (.map #[] 0)) :
    (Instr.mapUpdate 137 (.map (some m)) (kcc a b c) v).run Tryf.prog w = .ok () (setObj w m (.map #[⟨kcc a b c, v, 0⟩] 1)) := by
  simp [Instr.mapUpdate, run_underlying Tryf.underlying137, getMap m _ _ w h, check166, find166e, putMap m _ _ _ w h]
theorem look43 (m : Nat) (a b c d : Int) (v : Value) (w : World) (h : w.heap[m]? = some (.map #[⟨kref c d, v, 0⟩] 1)) :
    (Instr.lookup 43 (.map (some m)) (kref a b) false).run Tryf.prog w = .ok (if a = c ∧ b = d then v else .agg #[.map none, .int .u32 0]) w := by
  have hz : (zeroValue 163).run Tryf.prog w = .ok (.agg #[.map none, .int .u32 0]) w := by kernel_rfl
  simp [Instr.lookup, run_underlying Tryf.underlying43, getMap m _ _ w h, check24, find24]
  by_cases h : a = c ∧ b = d <;> simp [h, hz]
theorem look43e (m : Nat) (a b : Int) (w : World) (h : w.heap[m]? = some (.map #[] 0)) :
    (Instr.lookup 43 (.map (some m)) (kref a b) false).run Tryf.prog w = .ok (.agg #[.map none, .int .u32 0]) w := by
  have hz : (zeroValue 163).run Tryf.prog w = .ok (.agg #[.map none, .int .u32 0]) w := by kernel_rfl
  simp [Instr.lookup, run_underlying Tryf.underlying43, getMap m _ _ w h, check24, find24e, hz]
theorem look137 (m : Nat) (a b c : Int) (v : Value) (w : World) (h : w.heap[m]? = some (.map #[⟨kcc a b c, v, 0⟩] 1)) :
    (Instr.lookup 137 (.map (some m)) (kcc a b c) true).run Tryf.prog w = .ok (.tuple #[v, .bool true]) w := by
  simp [Instr.lookup, run_underlying Tryf.underlying137, getMap m _ _ w h, check166, find166]
theorem look137f (m : Nat) (a b c : Int) (v : Value) (w : World) (h : w.heap[m]? = some (.map #[⟨kcc a b c, v, 0⟩] 1)) :
    (Instr.lookup 137 (.map (some m)) (kcc a b c) false).run Tryf.prog w = .ok v w := by
  simp [Instr.lookup, run_underlying Tryf.underlying137, getMap m _ _ w h, check166, find166]
end Go.Proofs.YtdgijbkomekopaaFmt
