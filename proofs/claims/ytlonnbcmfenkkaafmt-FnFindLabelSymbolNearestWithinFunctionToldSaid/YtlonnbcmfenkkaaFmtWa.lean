/-
  WALKS. Small contracts of the seat's helpers: the lengths' test, a new parser, its symbols, a use recorded, what stops hoisting.
-/
import Derived.Test.YtlonnbcmfenkkaaFmtProg
import Derived.WalkKit
import Derived.WalkSpells
import Derived.WalkLawsBesides
import Derived.RegionTactic
import Derived.Deep.QuietTactic
import Derived.BigQuiet
import Derived.Below
import Derived.Outline
import Derived.Lib.Hide
import Derived.OpenShut
namespace Go.Proofs.YtlonnbcmfenkkaaFmt
open Go.RowKit

@[go_sem] theorem setCell_twice (w : World) (a : Addr) (u v : Value) : (w.setCell a u).setCell a v = w.setCell a v := by
  unfold World.setCell
  have h : ∀ (l : Array Obj) (i : Nat) (f g : Obj → Obj), (l.modify i f).modify i g = l.modify i (g ∘ f) := by
    intro l i f g
    apply Array.ext (by simp)
    intro j h1 h2
    simp only [Array.getElem_modify]
    split <;> rfl
  simp only [h]
  congr 2
  funext o
  cases o with
  | cells c e f =>
    simp only [Function.comp]
    split <;> simp
  | _ => rfl

noncomputable def pcells (c m y : Value) : Array Value := match (Instr.build 182 #[(7, c), (58, m), (9, y)]).run Tryf.prog default with | .ok (.agg cs) _ => cs | _ => #[]
theorem pcells_run (a b : Nat) (v : Option Addr) (l k : Nat) (w : World) : (Instr.build 182 #[(7, .pointer (some ⟨a, 0, none⟩)), (58, .pointer (some ⟨b, 0, none⟩)), (9, .slice v l k)]).run Tryf.prog w = .ok (.agg (pcells (.pointer (some ⟨a, 0, none⟩)) (.pointer (some ⟨b, 0, none⟩)) (.slice v l k))) w := by kernel_rfl
@[go_sem] theorem pcells_32 (a b : Nat) (v : Option Addr) (l k : Nat) : (pcells (.pointer (some ⟨a, 0, none⟩)) (.pointer (some ⟨b, 0, none⟩)) (.slice v l k))[32]? = some (.bool false) := by kernel_rfl
@[go_sem] theorem pcells_104 (a b : Nat) (v : Option Addr) (l k : Nat) : (pcells (.pointer (some ⟨a, 0, none⟩)) (.pointer (some ⟨b, 0, none⟩)) (.slice v l k))[104]? = some (.pointer (some ⟨a, 0, none⟩)) := by kernel_rfl
@[go_sem] theorem pcells_105 (a b : Nat) (v : Option Addr) (l k : Nat) : (pcells (.pointer (some ⟨a, 0, none⟩)) (.pointer (some ⟨b, 0, none⟩)) (.slice v l k))[105]? = some (.pointer none) := by kernel_rfl
@[go_sem] theorem pcells_106 (a b : Nat) (v : Option Addr) (l k : Nat) : (pcells (.pointer (some ⟨a, 0, none⟩)) (.pointer (some ⟨b, 0, none⟩)) (.slice v l k))[106]? = some (.slice v l k) := by kernel_rfl
@[go_sem] theorem pcells_350 (a b : Nat) (v : Option Addr) (l k : Nat) : (pcells (.pointer (some ⟨a, 0, none⟩)) (.pointer (some ⟨b, 0, none⟩)) (.slice v l k))[350]? = some (.bool false) := by kernel_rfl

/-- an operation whose value is known in every world -/
theorem wpList_val {P : Program} {ops : Array Oper} {rest : List Oper} {o : Oper} {a : Act} {Q : Exit → Act → World → Prop} {w : World} (hg : o.guard = none) (v : Value)
    (h : (execOp a.eval o).run P w = .ok (.value v) w) (hK : wpList P ops Q rest (a.put o.dst v) w) : wpList P ops Q (o :: rest) a w := by
  refine wpList_plain hg fun K hK' => ?_
  unfold Oper.wp
  rw [h]
  exact hK' _ _ hK

/-- what of a parser is read: the current scope, the symbols; nothing dead, no part, no TypeScript -/
structure PS (w : World) (p c : Nat) (y : Value) : Prop where
  h : p < w.heap.size
  c32 : w.cell? ⟨p, 32, none⟩ = some (.bool false)
  c104 : w.cell? ⟨p, 104, none⟩ = some (.pointer (some ⟨c, 0, none⟩))
  c105 : w.cell? ⟨p, 105, none⟩ = some (.pointer none)
  c106 : w.cell? ⟨p, 106, none⟩ = some y
  c350 : w.cell? ⟨p, 350, none⟩ = some (.bool false)

set_option maxRecDepth 100000 in
set_option maxHeartbeats 1000000 in
theorem new_any (a b : Nat) (v : Option Addr) (l k : Nat) (w : World) :
    Calls Tryf.prog 9 #[.pointer (some ⟨a, 0, none⟩), .pointer (some ⟨b, 0, none⟩), .slice v l k] w fun e w' => e = .returned (.pointer (some ⟨w.heap.size, 0, none⟩)) ∧
      w' = w.alloc (.cells (pcells (.pointer (some ⟨a, 0, none⟩)) (.pointer (some ⟨b, 0, none⟩)) (.slice v l k)) 182) := by
  go_enter Tryf.func9, Tryf.ntmps9
  go_wp2_with (first | (with_reducible refine wpList_val (o := ⟨some 10, _, _, _, _, _⟩) rfl (.agg (pcells (.pointer (some ⟨a, 0, none⟩)) (.pointer (some ⟨b, 0, none⟩)) (.slice v l k))) ?c1 ?_))
  case c1 =>
    have := pcells_run a b v l k w
    simp [execOp, Act.eval, this, Result.andThen]
  go_ret
  exact ⟨rfl, rfl⟩

theorem new_ps (a b : Nat) (v : Option Addr) (l k : Nat) (w : World) :
    PS (w.alloc (.cells (pcells (.pointer (some ⟨a, 0, none⟩)) (.pointer (some ⟨b, 0, none⟩)) (.slice v l k)) 182)) w.heap.size a (.slice v l k) :=
  ⟨by simp, by simp [pcells_32], by simp [pcells_104], by simp [pcells_105], by simp [pcells_106], by simp [pcells_350]⟩

theorem symbols_any (p c : Nat) (y : Value) (w : World) (h : PS w p c y) : Calls Tryf.prog 11 #[.pointer (some ⟨p, 0, none⟩)] w fun e w' => e = .returned y ∧ w' = w := by
  have h1 := h.c106
  go_enter Tryf.func11, Tryf.ntmps11
  go_wp2
  go_ret
  exact ⟨rfl, rfl⟩

theorem stops_any (k : Int) (w : World) : Calls Tryf.prog 19 #[.int .u8 k] w fun e w' => e = .returned (.bool (decide (k ≥ 6))) ∧ w' = w := by
  go_enter Tryf.func19, Tryf.ntmps19
  go_wp2
  go_ret
  exact ⟨rfl, rfl⟩

theorem bytes_near (a0 : Option Addr) (len0 cap0 : Nat) (a1 : ByteArray) (w : World) (h1 : len0 ≤ 4096) (h2 : a1.size ≤ 65536) :
    Calls Tryf.prog 15 #[.slice a0 len0 cap0, .string a1] w fun e w' => e = .returned (.bool true) ∧ w' = w := by
  go_enter Tryf.func15, Tryf.ntmps15
  go_wp2
  go_ret
  exact ⟨rfl, rfl⟩

theorem bytes_reps (a0 : Option Addr) (len0 cap0 : Nat) (a1 : ByteArray) (r : Int) (w : World) (h1 : len0 ≤ 4096) (h2 : a1.size ≤ 65536) :
    Calls Tryf.prog 6 #[.slice a0 len0 cap0, .string a1, .int .u8 r] w fun e w' => e = .returned (.bool true) ∧ w' = w := by
  go_enter Tryf.func6, Tryf.ntmps6
  go_wp2
  go_ret
  exact ⟨rfl, rfl⟩
end Go.Proofs.YtlonnbcmfenkkaaFmt
