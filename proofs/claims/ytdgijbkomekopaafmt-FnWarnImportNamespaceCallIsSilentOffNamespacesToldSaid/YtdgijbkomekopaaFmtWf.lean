import Derived.Test.YtdgijbkomekopaaFmtWe
namespace Go.Proofs.YtdgijbkomekopaaFmt
open Go.RowKit

theorem heap1d (w : World) (o o' : Obj) (m n n' : Nat) (hm : m < w.heap.size) : ((((w.alloc o).drewN n).alloc o').drewN n').heap[m]? = w.heap[m]? := (Below.heap_alloc ((w.alloc o).drewN n) o' m (by show m < (w.alloc o).heap.size; simp; omega)).trans (Below.heap_alloc w o m hm)

set_option maxRecDepth 100000 in
set_option maxHeartbeats 1000000 in
/-- a namespace import of which this pair has been told already -/
theorem warn_hit (p m c i x : Nat) (a b l k fm : Int) (w : World) (hp : p < w.heap.size) (hm : m < w.heap.size) (hcs : c < w.heap.size) (hi : i < w.heap.size) (hc : w.cell? ⟨p, 36, none⟩ = some (.int .u8 fm)) (hfm : (fm != 0) = true)
    (hcm : w.cell? ⟨p, 171, none⟩ = some (.map (some m))) (hcc : w.cell? ⟨p, 176, none⟩ = some (.map (some c))) (hi0 : w.cell? ⟨i, 0, none⟩ = some (.int .u32 a)) (hi1 : w.cell? ⟨i, 1, none⟩ = some (.int .u32 b))
    (hmm : w.heap[m]? = some (.map #[⟨kref a b, .agg #[.map (some x), .int .u32 0], 0⟩] 1)) (hmc : w.heap[c]? = some (.map #[⟨kcc a b k, .bool true, 0⟩] 1)) :
    Calls Tryf.prog 13 #[.pointer (some ⟨p, 0, none⟩), .agg #[.iface 167 (.pointer (some ⟨i, 0, none⟩)), .int .i32 l], .int .u8 k] w fun e w' => e = .returned (.tuple #[]) ∧ Below w.heap.size w w' := by
  have hp1 : p < w.heap.size + 1 := by omega
  have hp2 : p ≤ w.heap.size := by omega
  have hi2 : i < w.heap.size + 1 := by omega
  have hi3 : i ≤ w.heap.size := by omega
  have hl : ∀ n, (Instr.lookup 43 (.map (some m)) (kref a b) false).run Tryf.prog ((w.alloc (.cells #[.iface 167 (.pointer (some ⟨i, 0, none⟩)), .int .i32 l] 35)).drewN n) = .ok (.agg #[.map (some x), .int .u32 0]) ((w.alloc (.cells #[.iface 167 (.pointer (some ⟨i, 0, none⟩)), .int .i32 l] 35)).drewN n) := by
    intro n
    exact (look43 m a b a b _ _ ((heap1 w _ m n hm).trans hmm)).trans (by rw [if_pos ⟨rfl, rfl⟩])
  have hfd : ∀ W, (Instr.field 163 (.agg #[.map (some x), .int .u32 0]) 0).run Tryf.prog W = .ok (.map (some x)) W := fun W => by kernel_rfl
  have hmn : ∀ W, (binOp .neq 118 (.map (some x)) (.map none)).run Tryf.prog W = .ok (.bool true) W := fun W => run_neq_map_nil W 118 9 193 (some x) Tryf.underlying118
  have hme : ∀ W, (binOp .eql 137 (.map (some c)) (.map none)).run Tryf.prog W = .ok (.bool false) W := fun W => run_eql_map_nil W 137 166 4 (some c) Tryf.underlying137
  clear hmm
  have hmc := Lib.hid hmc
  go_enter Tryf.func13, Tryf.ntmps13
  go_wp2
  go_quiet (fail)
  go_wp2
  have hl2 : ∀ n', (Instr.lookup 137 (.map (some c)) (kcc a b k) true).run Tryf.prog ((((w.alloc (.cells #[.iface 167 (.pointer (some ⟨i, 0, none⟩)), .int .i32 l] 35)).drewN nq).alloc (.cells #[.int .u32 a, .int .u32 b, .int .u8 k] 166)).drewN n') =
      .ok (.tuple #[.bool true, .bool true]) ((((w.alloc (.cells #[.iface 167 (.pointer (some ⟨i, 0, none⟩)), .int .i32 l] 35)).drewN nq).alloc (.cells #[.int .u32 a, .int .u32 b, .int .u8 k] 166)).drewN n') := by
    intro n'
    exact look137 c a b k _ _ ((heap1d w _ _ c nq n' hcs).trans hmc.out)
  clear hl
  go_quiet (fail)
  go_wp2
  exact bodyPost_ret (v := .tuple #[]) (by simp [results, Tryf.results13, go_sem]) rfl ⟨rfl, below_drewN ((below_drewN ((Below.refl _ _).alloc (Nat.le_refl _) _) _).alloc (by show w.heap.size ≤ (w.alloc _).heap.size; simp) _) _⟩
end Go.Proofs.YtdgijbkomekopaaFmt
