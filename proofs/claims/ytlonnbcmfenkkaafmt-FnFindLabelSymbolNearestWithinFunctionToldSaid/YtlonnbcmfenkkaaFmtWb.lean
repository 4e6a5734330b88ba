/-
  WALKS. zzNearestLabel: the nearest label in the same function, or -1.
-/
import Derived.Test.YtlonnbcmfenkkaaFmtWa
namespace Go.Proofs.YtlonnbcmfenkkaaFmt
open Go.RowKit

/-- scope i is a label of the name asked for -/
def hit (z : Nat → Int) (i : Nat) : Prop := z i % 3 = 1 ∧ (bits .and .u8 (z i) 4 != 0) = true
/-- scope j is the nearest label of that name in the same function -/
def Near (z : Nat → Int) (n j : Nat) : Prop := j + 1 < n ∧ hit z j ∧ ∀ i, i < j → z i % 3 ≠ 2 ∧ ¬ hit z i
/-- the kinds' bytes lie there -/
structure Bytes (w : World) (g off n : Nat) (z : Nat → Int) : Prop where
  h : g < w.heap.size
  c : ∀ i, i < n → w.cell? ⟨g, off + i, none⟩ = some (.int .u8 (z i))
  lo : ∀ i, i < n → 0 ≤ z i
  hi : ∀ i, i < n → z i ≤ 255
theorem Bytes.below {w w' : World} {g off n : Nat} {z : Nat → Int} (h : Bytes w g off n z) {B : Nat} (hB : g < B) (b : Below B w w') : Bytes w' g off n z :=
  ⟨Nat.lt_of_lt_of_le h.h b.size, fun i hi => (b.cell (p := ⟨g, off + i, none⟩) hB).trans (h.c i hi), h.lo, h.hi⟩

set_option maxRecDepth 100000 in
set_option maxHeartbeats 2000000 in
theorem near_any (g off n cap : Nat) (z : Nat → Int) (w : World) (hcap : n ≤ cap) (hz : Bytes w g off n z) (h4 : n ≤ 4096) :
    Calls Tryf.prog 7 #[.slice (some ⟨g, off, none⟩) n cap] w fun e w' => w' = w ∧ ∃ j : Int, e = .returned (.int .i64 j) ∧ (j = -1 ∨ ∃ k : Nat, j = k ∧ Near z n k) := by
  go_enter Tryf.func7, Tryf.ntmps7
  go_wp2
  go_loopw [4] (fun i wr => ∃ k : Nat, i = .int .i64 k ∧ k ≤ n ∧ (∀ i, i < k → i + 1 ≠ n ∧ z i % 3 ≠ 2 ∧ ¬ hit z i) ∧ wr = w) (fun i _ => n - (intOf i).toNat)
  case atStart => exact ⟨0, rfl, by omega, fun i hi => by omega, rfl⟩
  case round =>
    obtain ⟨k, rfl, hk, hno, rfl⟩ := hrel
    by_cases hlt : k < n
    · have hc := hz.c k hlt
      have hz0 := hz.lo k hlt
      have hz1 := hz.hi k hlt
      have hno := Lib.hid hno
      clear hz
      by_cases hlast : k + 1 = n
      · have hl : ((k : Int) == (n : Int) - 1) = true := by simp; omega
        go_wp2
        go_ret
        exact ⟨rfl, -1, rfl, .inl rfl⟩
      · have hl : ((k : Int) == (n : Int) - 1) = false := by simp; omega
        have hnk : z k % 3 = z k % 3 := rfl
        generalize hzk : z k = zk at hc hz0 hz1
        have h3 : zk % 3 = 0 ∨ zk % 3 = 1 ∨ zk % 3 = 2 := by omega
        rcases h3 with h3 | h3 | h3
        · go_wp2
          go_roundw
          case rel =>
            refine ⟨k + 1, by go_num, by omega, fun i hi => ?_, trivial⟩
            by_cases hik : i = k
            · subst hik; exact ⟨hlast, by omega, fun hh => by have := hh.1; omega⟩
            · exact hno.out i (by omega)
          case measure => simp [intOf]; omega
        · by_cases hb : (bits .and .u8 zk 4 != 0) = true
          · go_wp2
            go_ret
            exact ⟨rfl, k, rfl, .inr ⟨k, rfl, by omega, ⟨by omega, by rw [hzk]; exact hb⟩, fun i hi => (hno.out i hi).2⟩⟩
          · have hb' : (bits .and .u8 zk 4 != 0) = false := by simpa using hb
            go_wp2
            go_roundw
            case rel =>
              refine ⟨k + 1, by go_num, by omega, fun i hi => ?_, trivial⟩
              by_cases hik : i = k
              · subst hik; exact ⟨hlast, by omega, fun hh => hb (by have := hh.2; rw [hzk] at this; exact this)⟩
              · exact hno.out i (by omega)
            case measure => simp [intOf]; omega
        · go_wp2
          go_ret
          exact ⟨rfl, -1, rfl, .inl rfl⟩
    · go_wp2
      go_ret
      exact ⟨rfl, -1, rfl, .inl rfl⟩
end Go.Proofs.YtlonnbcmfenkkaaFmt
