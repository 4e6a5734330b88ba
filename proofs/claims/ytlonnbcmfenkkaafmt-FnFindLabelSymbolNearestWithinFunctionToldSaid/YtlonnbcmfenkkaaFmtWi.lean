/-
  WALKS. FnFindLabelSymbolNearestWithinFunction, whole.
-/
import Derived.Test.YtlonnbcmfenkkaaFmtWg
import Derived.Test.YtlonnbcmfenkkaaFmtWh
import Derived.StillTailTactics
import Derived.Lib.QuoteBits
import Derived.Laws.StructEq
namespace Go.Proofs.YtlonnbcmfenkkaaFmt
open Go.RowKit

def kref (a b : Int) : Value := .agg #[.int .u32 a, .int .u32 b]
@[go_sem] theorem lt_succ_int (m : Nat) : ((m : Int) < (m : Int) + 1) = True := by simp; omega

set_option maxRecDepth 100000 in
set_option maxHeartbeats 2000000 in
theorem near_main (g off n cap : Nat) (z : Nat → Int) (name : ByteArray) (w : World) (hcap : n ≤ cap) (hz : Bytes w g off n z) (h4 : n ≤ 4096) (h1 : 0 < n) (hname : name.size ≤ 65536) :
    Calls Tryf.prog 5 #[.slice (some ⟨g, off, none⟩) n cap, .string name] w fun e w' => e = .returned (.bool true) ∧ Below w.heap.size w w' := by
  obtain ⟨m, rfl⟩ : ∃ m, n = m + 1 := ⟨n - 1, by omega⟩
  go_enter Tryf.func5, Tryf.ntmps5
  go_wp2_with (first | (go_at_call 15; refine (bytes_near _ _ _ _ _ h4 hname).mono ?_; rintro e w1 ⟨rfl, rfl⟩) | fail)
  refine (near_any g off (m + 1) cap z _ hcap hz h4).mono ?_
  rintro e w1 ⟨rfl, j, rfl, hj⟩
  rcases hj with rfl | ⟨j, rfl, hj⟩
  · go_wp2
    go_ret
    exact ⟨rfl, Below.refl _ _⟩
  · have hj' := Lib.hid hj
    go_wp2_with fail
    refine (build_any g off (m + 1) cap z name _ hcap hz h4 h1 hname).mono ?_
    rintro e w2 ⟨Y, sc, rfl, hSY, hb, hch, hrow, hS, hcnt⟩
    have r0 := hrow 0 h1
    have r1 := hrow m (by omega)
    have hwr : IntKind.i64.wrap (m : Int) = (m : Int) := Lib.wrap_i64_small m (by omega)
    have H1 := Lib.hid (And.intro hb (And.intro hch (And.intro hrow hcnt)))
    clear hb hch hrow hcnt
    go_wp2_with fail
    go_still_tail 9, (by kernel_rfl)
    change wpList _ _ _ _ _ w2.drew
    go_wp2_with fail
    refine (new_any _ _ _ _ _ _).mono ?_
    rintro e w3 ⟨rfl, rfl⟩
    obtain ⟨hb, hch, hrow, hcnt⟩ := H1.out
    clear H1
    go_wp2_with fail
    have hjn : j < m + 1 := by have := hj.1; omega
    have b23 : Below w2.heap.size w2 ((w2.alloc (.cells (pcells (.pointer (some ⟨sc 0, 0, none⟩)) (.pointer (some ⟨sc m, 0, none⟩)) (.slice (some ⟨Y, 0, none⟩) (m + 1) (m + 1))) 182)).drew) := ((Below.refl _ _).alloc (Nat.le_refl _) _).drew
    have hYw := hch.y
    have hp3 := (new_ps (sc 0) (sc m) (some ⟨Y, 0, none⟩) (m + 1) (m + 1) w2).below (Below.refl _ _).drew
    have hB3 : w1.heap.size ≤ w2.heap.size := Nat.le_of_lt hS
    refine (zzfind_any w2.heap.size Y (m + 1) (m + 1) j sc z name (lbl z name) 0 0 _ hp3 (hch.below b23) hj h4 (by omega) ((b23.cell (p := ⟨Y, 10 * j + 4, none⟩) hYw).trans (hcnt j hjn).1) ((b23.frozen (p := ⟨Y, 10 * j + 4, none⟩) hYw).trans (hcnt j hjn).2) (by omega) (by omega) w1.heap.size (by omega)).mono ?_
    rintro e w4 ⟨rfl, hst, hc4⟩
    have hs4 := hst.size
    have hcnt4 : ∀ i, i < m + 1 → w4.cell? ⟨Y, 10 * i + 4, none⟩ = some (.int .u32 (if i = j then 1 else 0)) := fun i hi => by
      by_cases e : i = j
      · subst e; rw [if_pos rfl]; exact hc4
      · rw [if_neg e]
        exact (hst.cell _ _ (Nat.lt_of_lt_of_le hYw b23.size) (fun h => by omega)).trans ((b23.cell (p := ⟨Y, 10 * i + 4, none⟩) hYw).trans (hcnt i hi).1)
    have hbel4 : Below w1.heap.size w1 w4 := (hb.trans (b23.mono hB3)).trans hst.below
    have hp4 := hp3.step hst (by omega)
    have hz4 := (hz.below hz.h hbel4).c j hjn
    have hYw4 : Y < w4.heap.size := Nat.lt_of_lt_of_le (Nat.lt_of_lt_of_le hYw b23.size) hs4
    have hgw4 : g < w4.heap.size := (hz.below hz.h hbel4).h
    have hlo : loopOf z j = (bits .and .u8 (z j) 8 != 0) := rfl
    clear hst hc4 hs4 hcnt hp3 b23 hrow hch hb r0 r1
    have H2 := Lib.hid (And.intro hcnt4 (And.intro hbel4 hp4))
    clear hcnt4 hbel4 hp4
    generalize hlj : bits .and .u8 (z j) 8 = lj at hlo
    go_wp2_with fail
    obtain ⟨hcnt4, hbel4, hp4⟩ := H2.out
    have b45 : Below w4.heap.size w4 (w4.alloc (.cells #[.int .u32 0, .int .u32 j] 34)) := (Below.refl _ _).alloc (Nat.le_refl _) _
    refine (symbols_any w2.heap.size (sc 0) _ _ (hp4.below b45)).mono ?_
    rintro e w5 ⟨rfl, rfl⟩
    have hcnt5 : ∀ i, i < m + 1 → (w4.alloc (.cells #[.int .u32 0, .int .u32 j] 34)).cell? ⟨Y, 10 * i + 4, none⟩ = some (.int .u32 (if i = j then 1 else 0)) := fun i hi => (b45.cell (p := ⟨Y, 10 * i + 4, none⟩) hYw4).trans (hcnt4 i hi)
    have hbel5 : Below w1.heap.size w1 (w4.alloc (.cells #[.int .u32 0, .int .u32 j] 34)) := hbel4.trans (b45.mono hbel4.size)
    generalize hw5 : w4.alloc (.cells #[.int .u32 0, .int .u32 j] 34) = w5 at hcnt5 hbel5
    clear hcnt4 hbel4 hp4 b45 H2 hz4
    have H3 := Lib.hid (And.intro hcnt5 hbel5)
    clear hcnt5 hbel5
    go_wp2
    go_loopw [14] (fun i wr => ∃ k : Nat, k ≤ m + 1 ∧ i = .int .i64 k ∧ wr = w5) (fun i _ => m + 1 - (intOf i).toNat)
    case atStart => exact ⟨0, by omega, rfl, rfl⟩
    case round =>
      obtain ⟨k, hk, rfl, rfl⟩ := hrel
      obtain ⟨hcnt5, hbel5⟩ := H3.out
      by_cases hlt : k < m + 1
      · have hc := hcnt5 k hlt
        have e1 : k * 10 + 4 = 10 * k + 4 := by omega
        by_cases hkj : k = j
        · subst hkj
          rw [if_pos rfl] at hc
          go_wp2
          go_roundw
          case rel => exact ⟨k + 1, by omega, by go_num, trivial⟩
          case measure => simp [intOf]; omega
        · rw [if_neg hkj] at hc
          have hkj' : ((k : Int) == (j : Int)) = false := by simp; omega
          go_wp2
          go_roundw
          case rel => exact ⟨k + 1, by omega, by go_num, trivial⟩
          case measure => simp [intOf]; omega
      · go_wp2
        go_ret
        exact ⟨rfl, hbel5⟩
end Go.Proofs.YtlonnbcmfenkkaaFmt
