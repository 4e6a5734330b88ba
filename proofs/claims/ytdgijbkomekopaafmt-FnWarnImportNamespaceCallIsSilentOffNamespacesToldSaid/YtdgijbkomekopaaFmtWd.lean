import Derived.Test.YtdgijbkomekopaaFmtWc
namespace Go.Proofs.YtdgijbkomekopaaFmt
open Go.RowKit

theorem setObj_alloc (w : World) (o o' : Obj) : setObj (w.alloc o) w.heap.size o' = w.alloc o' := by
  simp only [setObj, World.alloc]
  congr 1
  simp [Array.setIfInBounds, Array.set_push]

set_option maxRecDepth 100000 in
set_option maxHeartbeats 1000000 in
theorem mark_any (p : Nat) (a b k : Int) (w : World) (hp : p < w.heap.size) (hc : w.cell? ⟨p, 176, none⟩ = some (.map none)) (hf : w.frozen? ⟨p, 176, none⟩ = false) :
    Calls Tryf.prog 7 #[.pointer (some ⟨p, 0, none⟩), .agg #[.int .u32 a, .int .u32 b], .int .u8 k] w fun e w' => e = .returned (.tuple #[]) ∧
      w' = ((w.setCell ⟨p, 176, none⟩ (.map (some (w.heap.size + 1)))).alloc (.cells #[.int .u32 a, .int .u32 b] 24)).alloc (.map #[⟨kcc a b k, .bool true, 0⟩] 1) := by
  have hmk := @run_makeMap Tryf.prog
  have hp1 : p < w.heap.size + 1 := by omega
  have hp2 : p ≤ w.heap.size := by omega
  have hup := upd137 (w.heap.size + 1) a b k (.bool true) ((w.alloc (.cells #[.int .u32 a, .int .u32 b] 24)).alloc (.map #[] 0)) (by simpa using heap_alloc_new (w.alloc (.cells #[.int .u32 a, .int .u32 b] 24)) (.map #[] 0))
  have he := setObj_alloc (w.alloc (.cells #[.int .u32 a, .int .u32 b] 24)) (.map #[] 0) (.map #[⟨kcc a b k, .bool true, 0⟩] 1)
  simp only [World.size_alloc] at he
  rw [he] at hup
  clear he
  go_enter Tryf.func7, Tryf.ntmps7
  go_wp2
  go_end0
  exact ⟨rfl, rfl⟩
end Go.Proofs.YtdgijbkomekopaaFmt
