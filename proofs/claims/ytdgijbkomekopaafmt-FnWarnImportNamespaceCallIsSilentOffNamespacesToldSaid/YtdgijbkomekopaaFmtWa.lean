/-
  WALKS. Small contracts of the seat's helpers: a new parser, a namespace import entered, a pair marked.
-/
import Derived.Test.YtdgijbkomekopaaFmtProg
import Derived.WalkKit
import Derived.WalkSpells
import Derived.WalkLawsBesides
import Derived.RegionTactic
import Derived.Deep.QuietTactic
import Derived.BigQuiet
import Derived.Below
import Derived.Outline
import Derived.Lib.Hide
import Derived.OpenShut
namespace Go.Proofs.YtdgijbkomekopaaFmt
open Go.RowKit

noncomputable def pcells (r : Nat) : Array Value := match (Instr.build 161 #[(42, .map (some r))]).run Tryf.prog default with | .ok (.agg cs) _ => cs | _ => #[]
theorem pcells_run (r : Nat) (w : World) : (Instr.build 161 #[(42, .map (some r))]).run Tryf.prog w = .ok (.agg (pcells r)) w := by kernel_rfl
theorem pcells_size (r : Nat) : (pcells r).size = 353 := by kernel_rfl
@[go_sem] theorem pcells_36 (r : Nat) : (pcells r)[36]? = some (.int .u8 0) := by kernel_rfl
@[go_sem] theorem pcells_171 (r : Nat) : (pcells r)[171]? = some (.map (some r)) := by kernel_rfl
@[go_sem] theorem pcells_176 (r : Nat) : (pcells r)[176]? = some (.map none) := by kernel_rfl

/-- an operation whose value is known in every world -/
theorem wpList_val {P : Program} {ops : Array Oper} {rest : List Oper} {o : Oper} {a : Act} {Q : Exit → Act → World → Prop} {w : World} (hg : o.guard = none) (v : Value)
    (h : (execOp a.eval o).run P w = .ok (.value v) w) (hK : wpList P ops Q rest (a.put o.dst v) w) : wpList P ops Q (o :: rest) a w := by
  refine wpList_plain hg fun K hK' => ?_
  unfold Oper.wp
  rw [h]
  exact hK' _ _ hK

set_option maxRecDepth 100000 in
set_option maxHeartbeats 1000000 in
theorem new_any (fm : Int) (w : World) :
    Calls Tryf.prog 5 #[.int .u8 fm] w fun e w' => e = .returned (.pointer (some ⟨w.heap.size + 1, 0, none⟩)) ∧ w' = (w.alloc (.map #[] 0)).alloc (.cells ((pcells w.heap.size).setIfInBounds 36 (.int .u8 fm)) 161) := by
  have hmm := @run_makeMap Tryf.prog
  go_enter Tryf.func5, Tryf.ntmps5
  go_wp2_with (first | (with_reducible refine wpList_val (o := ⟨some 5, _, _, _, _, _⟩) rfl (.agg (pcells w.heap.size)) ?c1 ?_))
  case c1 =>
    have := pcells_run w.heap.size (w.alloc (.map #[] 0))
    simp [execOp, Act.eval, this, Result.andThen]
  go_ret
  exact ⟨rfl, rfl⟩
end Go.Proofs.YtdgijbkomekopaaFmt
