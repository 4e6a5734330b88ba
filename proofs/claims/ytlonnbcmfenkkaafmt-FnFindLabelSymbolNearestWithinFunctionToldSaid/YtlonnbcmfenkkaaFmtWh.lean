/-
  WALKS. The first steps of both label laws: the lengths' test for all inputs, no scopes at all, the kinds' bytes as they came in.
-/
import Derived.Test.YtlonnbcmfenkkaaFmtWe
namespace Go.Proofs.YtlonnbcmfenkkaaFmt
open Go.RowKit

theorem near_zero (a : Option Addr) (cap : Nat) (w : World) : Calls Tryf.prog 7 #[.slice a 0 cap] w fun e w' => e = .returned (.int .i64 (-1)) ∧ w' = w := by
  go_enter Tryf.func7, Tryf.ntmps7
  go_wp2
  go_loopw [4] (fun i wr => i = .int .i64 0 ∧ wr = w) (fun _ _ => 0)
  case atStart => exact ⟨rfl, rfl⟩
  case round =>
    obtain ⟨rfl, rfl⟩ := hrel
    go_wp2
    go_ret
    exact ⟨rfl, rfl⟩

set_option maxHeartbeats 1000000 in
theorem bytes_near_some (a0 : Option Addr) (len0 cap0 : Nat) (a1 : ByteArray) (w : World) : Calls Tryf.prog 15 #[.slice a0 len0 cap0, .string a1] w fun e w' => ∃ b, e = .returned (.bool b) ∧ w' = w := by
  by_cases h1 : len0 ≤ 1048576
  · by_cases h2 : a1.size ≤ 1048576
    · by_cases h3 : len0 + a1.size ≤ 1048576
      · go_enter Tryf.func15, Tryf.ntmps15
        go_wp2
        go_ret
        exact ⟨_, rfl, rfl⟩
      · go_enter Tryf.func15, Tryf.ntmps15
        go_wp2
        go_ret
        exact ⟨_, rfl, rfl⟩
    · go_enter Tryf.func15, Tryf.ntmps15
      go_wp2
      go_ret
      exact ⟨_, rfl, rfl⟩
  · go_enter Tryf.func15, Tryf.ntmps15
    go_wp2
    go_ret
    exact ⟨_, rfl, rfl⟩

set_option maxHeartbeats 1000000 in
theorem bytes_reps_some (a0 : Option Addr) (len0 cap0 : Nat) (a1 : ByteArray) (r : Int) (w : World) : Calls Tryf.prog 6 #[.slice a0 len0 cap0, .string a1, .int .u8 r] w fun e w' => ∃ b, e = .returned (.bool b) ∧ w' = w := by
  by_cases h1 : len0 ≤ 1048576
  · by_cases h2 : a1.size ≤ 1048576
    · by_cases h3 : len0 + a1.size ≤ 1048576
      · go_enter Tryf.func6, Tryf.ntmps6
        go_wp2
        go_ret
        exact ⟨_, rfl, rfl⟩
      · go_enter Tryf.func6, Tryf.ntmps6
        go_wp2
        go_ret
        exact ⟨_, rfl, rfl⟩
    · go_enter Tryf.func6, Tryf.ntmps6
      go_wp2
      go_ret
      exact ⟨_, rfl, rfl⟩
  · go_enter Tryf.func6, Tryf.ntmps6
    go_wp2
    go_ret
    exact ⟨_, rfl, rfl⟩

/-- WHAT THE WALK IS TOLD OF A SLICE OF INTEGERS THAT CAME IN. -/
def IsRow (k : IntKind) (w : World) (a : Option Addr) (len cap : Nat) (zs : List Int) : Prop :=
  (a = none ∧ len = 0 ∧ cap = 0 ∧ zs = []) ∨
  ∃ x, a = some x ∧ len ≤ cap ∧ cap ≤ maxLen ∧ zs.length = cap ∧ (∀ i, i < zs.length → w.cell? (x.add i) = some (.int k (zs.getD i 0))) ∧ ∀ n ∈ zs, (Lit.int k n).wf = true

theorem IsRow.bytes {w : World} {a : Option Addr} {len cap : Nat} {zs : List Int} (h : IsRow .u8 w a len cap zs) (h0 : 0 < len) :
    ∃ g off, a = some ⟨g, off, none⟩ ∧ len ≤ cap ∧ Bytes w g off len fun i => zs.getD i 0 := by
  rcases h with ⟨_, rfl, _⟩ | ⟨x, rfl, hl, _, hz, hc, hw⟩
  · omega
  · have h1 := hc 0 (by omega)
    have e0 : x.add 0 = x := rfl
    rw [e0] at h1
    obtain ⟨g, off, spot⟩ := x
    cases spot with
    | some s =>
      simp [World.cell?] at h1
      split at h1 <;> cases h1
    | none =>
      refine ⟨g, off, rfl, hl, ?_, fun i hi => ?_, fun i hi => ?_, fun i hi => ?_⟩
      · cases hg : w.heap[g]? with
        | none => simp [World.cell?, hg] at h1
        | some o => exact (Array.getElem?_eq_some_iff.1 hg).1
      · have := hc i (by omega)
        by_cases hi0 : i = 0
        · subst hi0; exact this
        · simpa [Addr.add, hi0] using this
      · have hm : zs.getD i 0 ∈ zs := by
          have hi' : i < zs.length := by omega
          simp [List.getD, List.getElem?_eq_getElem hi']
        exact (bounds_u8 (hw _ hm)).1
      · have hm : zs.getD i 0 ∈ zs := by
          have hi' : i < zs.length := by omega
          simp [List.getD, List.getElem?_eq_getElem hi']
        exact (bounds_u8 (hw _ hm)).2
end Go.Proofs.YtlonnbcmfenkkaaFmt
