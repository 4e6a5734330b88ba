import Derived.Test.YtdgijbkomekopaaFmtWg
namespace Go.Proofs.YtdgijbkomekopaaFmt
open Go.RowKit

theorem below3 (w : World) (a b c : Obj) : Below w.heap.size w (((w.alloc a).alloc b).alloc c) := (((Below.refl _ _).alloc (Nat.le_refl _) _).alloc (by simp) _).alloc (by simp; omega) _

set_option maxRecDepth 100000 in
theorem ns_true (a b : Int) (w : World) : Calls Tryf.prog 8 #[.bool true, .agg #[.int .u32 a, .int .u32 b]] w fun e w' => ∃ i, e = .returned (.agg #[.iface 167 (.pointer (some ⟨i, 0, none⟩)), .int .i32 0]) ∧ Below w.heap.size w w' ∧
    i < w'.heap.size ∧ w'.cell? ⟨i, 0, none⟩ = some (.int .u32 a) ∧ w'.cell? ⟨i, 1, none⟩ = some (.int .u32 b) := by
  go_enter Tryf.func8, Tryf.ntmps8
  go_wp2
  refine bodyPost_ret (v := .agg #[.iface 167 (.pointer (some ⟨w.heap.size + 1 + 1, 0, none⟩)), .int .i32 0]) (by simp [results, Tryf.results8, go_sem]) rfl ⟨_, rfl, below3 _ _ _ _, by simp, ?_, ?_⟩
  · go_simp
  · go_simp

set_option maxRecDepth 100000 in
theorem ns_false (a b : Int) (w : World) : Calls Tryf.prog 8 #[.bool false, .agg #[.int .u32 a, .int .u32 b]] w fun e w' => ∃ q, e = .returned (.agg #[.iface 170 (.pointer (some q)), .int .i32 0]) ∧ Below w.heap.size w w' := by
  go_enter Tryf.func8, Tryf.ntmps8
  go_wp2
  exact bodyPost_ret (v := .agg #[.iface 170 (.pointer (some ⟨w.heap.size + 1 + 1, 0, none⟩)), .int .i32 0]) (by simp [results, Tryf.results8, go_sem]) rfl ⟨_, rfl, below3 _ _ _ _⟩

set_option maxRecDepth 100000 in
/-- the exported wrapper: as the method, one box more -/
theorem warn_wrap (p t : Nat) (q : Addr) (l k : Int) (w : World)
    (h : ∀ o, Calls Tryf.prog 13 #[.pointer (some ⟨p, 0, none⟩), .agg #[.iface t (.pointer (some q)), .int .i32 l], .int .u8 k] (w.alloc o) fun e w' => e = .returned (.tuple #[]) ∧ Below (w.heap.size + 1) (w.alloc o) w') :
    Calls Tryf.prog 9 #[.pointer (some ⟨p, 0, none⟩), .agg #[.iface t (.pointer (some q)), .int .i32 l], .int .u8 k] w fun e w' => e = .returned (.tuple #[]) ∧ Below w.heap.size w w' := by
  have h := Lib.hid h
  go_enter Tryf.func9, Tryf.ntmps9
  go_wp2_with fail
  refine (h.out _).mono ?_
  rintro e w' ⟨rfl, hb⟩
  have hb := Lib.hid hb
  go_wp2
  go_end0
  exact ⟨rfl, ((Below.refl _ _).alloc (Nat.le_refl _) _).trans (hb.out.mono (by omega))⟩

set_option maxRecDepth 100000 in
theorem isnil_any (p : Nat) (r : Option Nat) (w : World) (hc : w.cell? ⟨p, 176, none⟩ = some (.map r)) : Calls Tryf.prog 12 #[.pointer (some ⟨p, 0, none⟩)] w fun e w' => e = .returned (.bool r.isNone) ∧ w = w' := by
  have hme : ∀ W, (binOp .eql 137 (.map r) (.map none)).run Tryf.prog W = .ok (.bool r.isNone) W := fun W => run_eql_map_nil W 137 166 4 r Tryf.underlying137
  go_enter Tryf.func12, Tryf.ntmps12
  go_wp2
  go_ret
  exact ⟨rfl, rfl⟩

set_option maxRecDepth 100000 in
theorem count_any (p c : Nat) (e : MapEntry) (w : World) (hc : w.cell? ⟨p, 176, none⟩ = some (.map (some c))) (hm : w.heap[c]? = some (.map #[e] 1)) : Calls Tryf.prog 10 #[.pointer (some ⟨p, 0, none⟩)] w fun e w' => e = .returned (.int .i64 1) ∧ w = w' := by
  have hl : (Builtin.len_ #[137] 3 #[.map (some c)]).run Tryf.prog w = .ok (.int .i64 1) w := by
    simp [Builtin.len_, run_underlying Tryf.underlying137, getMap c _ _ w hm, goInt]
  clear hm
  go_enter Tryf.func10, Tryf.ntmps10
  go_wp2
  go_ret
  exact ⟨rfl, rfl⟩
end Go.Proofs.YtdgijbkomekopaaFmt
