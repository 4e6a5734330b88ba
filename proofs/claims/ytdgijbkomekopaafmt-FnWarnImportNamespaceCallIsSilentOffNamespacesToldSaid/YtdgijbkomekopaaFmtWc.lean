import Derived.Test.YtdgijbkomekopaaFmtWb
namespace Go.Proofs.YtdgijbkomekopaaFmt
open Go.RowKit

theorem heap2 (w : World) (o o' : Obj) (m : Nat) (hm : m < w.heap.size) : (((w.alloc o).alloc o').drew).heap[m]? = w.heap[m]? :=
  (Below.heap_alloc (w.alloc o) o' m (by simp; omega)).trans (Below.heap_alloc w o m hm)

set_option maxRecDepth 100000 in
set_option maxHeartbeats 1000000 in
theorem add_any (p m : Nat) (a b : Int) (w : World) (hp : p < w.heap.size) (hm : m < w.heap.size) (hc : w.cell? ⟨p, 171, none⟩ = some (.map (some m))) (hmm : w.heap[m]? = some (.map #[] 0)) :
    Calls Tryf.prog 6 #[.pointer (some ⟨p, 0, none⟩), .agg #[.int .u32 a, .int .u32 b]] w fun e w' => e = .returned (.tuple #[]) ∧
      w' = setObj (((w.alloc (.cells #[.int .u32 a, .int .u32 b] 24)).alloc (.map #[] 0)).drew) m (.map #[⟨kref a b, .agg #[.map (some (w.heap.size + 1)), .int .u32 0], 0⟩] 1) := by
  have hmk := @run_makeMap Tryf.prog
  have hup := upd43 m a b (.agg #[.map (some (w.heap.size + 1)), .int .u32 0]) (((w.alloc (.cells #[.int .u32 a, .int .u32 b] 24)).alloc (.map #[] 0)).drew) ((heap2 w _ _ m hm).trans hmm)
  have hp1 : p < w.heap.size + 1 := by omega
  have hp2 : p ≤ w.heap.size := by omega
  go_enter Tryf.func6, Tryf.ntmps6
  go_wp2
  go_region
  all_goals (go_end0; exact ⟨rfl, rfl⟩)
end Go.Proofs.YtdgijbkomekopaaFmt
