import Derived.Test.YtdgijbkomekopaaFmtWd
namespace Go.Proofs.YtdgijbkomekopaaFmt
open Go.RowKit

theorem run_assert_yes {P : Program} (w : World) (x a e : TypeId) (v : Value) (h : P.underlying a = some (.pointer e)) :
    (Instr.typeAssert (.iface a v) x a true).run P w = .ok (.tuple #[v, .bool true]) w := by
  simp [Instr.typeAssert, run_underlying h]
theorem run_assert_no {P : Program} (w : World) (x a e t : TypeId) (v z : Value) (h : P.underlying a = some (.pointer e)) (hz : (zeroValue a).run P w = .ok z w) (hne : t ≠ a) :
    (Instr.typeAssert (.iface t v) x a true).run P w = .ok (.tuple #[z, .bool false]) w := by
  simp [Instr.typeAssert, run_underlying h, hne, hz]
@[go_sem] theorem as167 (w : World) (x : TypeId) (v : Value) : (Instr.typeAssert (.iface 167 v) x 167 true).run Tryf.prog w = .ok (.tuple #[v, .bool true]) w := run_assert_yes w x 167 _ v Tryf.underlying167
@[go_sem] theorem no167 (w : World) (x t : TypeId) (v : Value) (h : t ≠ 167) : (Instr.typeAssert (.iface t v) x 167 true).run Tryf.prog w = .ok (.tuple #[.pointer none, .bool false]) w := run_assert_no w x 167 _ t v _ Tryf.underlying167 (by kernel_rfl) h

set_option maxRecDepth 100000 in
set_option maxHeartbeats 1000000 in
/-- format 'preserve': nothing happens -/
theorem warn_preserve (p : Nat) (d l : Value) (k : Int) (w : World) (hp : p < w.heap.size) (hc : w.cell? ⟨p, 36, none⟩ = some (.int .u8 0)) :
    Calls Tryf.prog 13 #[.pointer (some ⟨p, 0, none⟩), .agg #[d, l], .int .u8 k] w fun e w' => e = .returned (.tuple #[]) ∧ Below w.heap.size w w' := by
  have hp1 : p < w.heap.size + 1 := by omega
  have hp2 : p ≤ w.heap.size := by omega
  go_enter Tryf.func13, Tryf.ntmps13
  go_wp2
  go_end0
  exact ⟨rfl, (Below.refl _ _).alloc (Nat.le_refl _) _⟩

set_option maxRecDepth 100000 in
set_option maxHeartbeats 1000000 in
/-- no identifier -/
theorem warn_other (p t : Nat) (q : Addr) (l k fm : Int) (w : World) (hp : p < w.heap.size) (hc : w.cell? ⟨p, 36, none⟩ = some (.int .u8 fm)) (hfm : (fm != 0) = true) (ht : t ≠ 167) :
    Calls Tryf.prog 13 #[.pointer (some ⟨p, 0, none⟩), .agg #[.iface t (.pointer (some q)), .int .i32 l], .int .u8 k] w fun e w' => e = .returned (.tuple #[]) ∧ Below w.heap.size w w' := by
  have hp1 : p < w.heap.size + 1 := by omega
  have hp2 : p ≤ w.heap.size := by omega
  go_enter Tryf.func13, Tryf.ntmps13
  go_wp2
  go_region
  go_wp2
  go_end0
  exact ⟨rfl, ((Below.refl _ _).alloc (Nat.le_refl _) _).drew⟩

theorem heap1 (w : World) (o : Obj) (m n : Nat) (hm : m < w.heap.size) : ((w.alloc o).drewN n).heap[m]? = w.heap[m]? := Below.heap_alloc w o m hm

set_option maxRecDepth 100000 in
set_option maxHeartbeats 1000000 in
/-- an identifier whose ref is no namespace import -/
theorem warn_miss (p m i : Nat) (a b l k fm : Int) (w : World) (hp : p < w.heap.size) (hm : m < w.heap.size) (hi : i < w.heap.size) (hc : w.cell? ⟨p, 36, none⟩ = some (.int .u8 fm)) (hfm : (fm != 0) = true)
    (hcm : w.cell? ⟨p, 171, none⟩ = some (.map (some m))) (hi0 : w.cell? ⟨i, 0, none⟩ = some (.int .u32 a)) (hi1 : w.cell? ⟨i, 1, none⟩ = some (.int .u32 b))
    (hmm : w.heap[m]? = some (.map #[] 0) ∨ ∃ c d v, w.heap[m]? = some (.map #[⟨kref c d, v, 0⟩] 1) ∧ ¬ (a = c ∧ b = d)) :
    Calls Tryf.prog 13 #[.pointer (some ⟨p, 0, none⟩), .agg #[.iface 167 (.pointer (some ⟨i, 0, none⟩)), .int .i32 l], .int .u8 k] w fun e w' => e = .returned (.tuple #[]) ∧ Below w.heap.size w w' := by
  have hp1 : p < w.heap.size + 1 := by omega
  have hp2 : p ≤ w.heap.size := by omega
  have hi2 : i < w.heap.size + 1 := by omega
  have hi3 : i ≤ w.heap.size := by omega
  have hl : ∀ n, (Instr.lookup 43 (.map (some m)) (kref a b) false).run Tryf.prog ((w.alloc (.cells #[.iface 167 (.pointer (some ⟨i, 0, none⟩)), .int .i32 l] 35)).drewN n) = .ok (.agg #[.map none, .int .u32 0]) ((w.alloc (.cells #[.iface 167 (.pointer (some ⟨i, 0, none⟩)), .int .i32 l] 35)).drewN n) := by
    intro n
    rcases hmm with h | ⟨c, d, v, h, hn⟩
    · exact look43e m a b _ ((heap1 w _ m n hm).trans h)
    · exact (look43 m a b c d v _ ((heap1 w _ m n hm).trans h)).trans (by rw [if_neg hn])
  have hfd : ∀ W, (Instr.field 163 (.agg #[.map none, .int .u32 0]) 0).run Tryf.prog W = .ok (.map none) W := fun W => by kernel_rfl
  have hmn : ∀ W, (binOp .neq 118 (.map none) (.map none)).run Tryf.prog W = .ok (.bool false) W := fun W => run_neq_map_nil W 118 9 193 none Tryf.underlying118
  clear hmm
  go_enter Tryf.func13, Tryf.ntmps13
  go_wp2
  go_quiet (fail)
  go_wp2
  go_end0
  exact ⟨rfl, below_drewN ((Below.refl _ _).alloc (Nat.le_refl _) _) _⟩
end Go.Proofs.YtdgijbkomekopaaFmt
