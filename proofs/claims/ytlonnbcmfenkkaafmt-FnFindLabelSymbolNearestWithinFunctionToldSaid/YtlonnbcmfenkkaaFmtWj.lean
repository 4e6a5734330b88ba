/-
  WALKS. FnFindLabelSymbolNearestWithinFunction at every input.
-/
import Derived.Test.YtlonnbcmfenkkaaFmtWi
namespace Go.Proofs.YtlonnbcmfenkkaaFmt
open Go.RowKit

set_option maxRecDepth 100000 in
set_option maxHeartbeats 2000000 in
theorem law_near (a0 : Option Addr) (len0 cap0 : Nat) (z0 : List Int) (a1 : ByteArray) (w : World) (w0 : IsRow .u8 w a0 len0 cap0 z0) :
    Calls Tryf.prog 5 #[.slice a0 len0 cap0, .string a1] w fun e w' => e = .returned (.bool true) ∧ Below w.heap.size w w' := by
  by_cases h4 : len0 ≤ 4096
  · by_cases hname : a1.size ≤ 65536
    · by_cases h0 : len0 = 0
      · subst h0
        go_enter Tryf.func5, Tryf.ntmps5
        go_wp2_with (first | (go_at_call 15; refine (bytes_near _ _ _ _ _ h4 hname).mono ?_; rintro e w1 ⟨rfl, rfl⟩) | (go_at_call 7; refine (near_zero _ _ _).mono ?_; rintro e w2 ⟨rfl, rfl⟩) | fail)
        go_ret
        exact ⟨rfl, Below.refl _ _⟩
      · obtain ⟨g, off, rfl, hl, hb⟩ := w0.bytes (by omega)
        exact near_main g off len0 cap0 _ a1 w hl hb h4 (by omega) hname
    · clear w0
      go_enter Tryf.func5, Tryf.ntmps5
      go_wp2_with fail
      refine (bytes_near_some _ _ _ _ _).mono ?_
      rintro e w1 ⟨b, rfl, rfl⟩
      cases b <;> go_wp2 <;> go_ret <;> exact ⟨rfl, Below.refl _ _⟩
  · clear w0
    go_enter Tryf.func5, Tryf.ntmps5
    go_wp2_with fail
    refine (bytes_near_some _ _ _ _ _).mono ?_
    rintro e w1 ⟨b, rfl, rfl⟩
    cases b <;> go_wp2 <;> go_ret <;> exact ⟨rfl, Below.refl _ _⟩
end Go.Proofs.YtlonnbcmfenkkaaFmt
