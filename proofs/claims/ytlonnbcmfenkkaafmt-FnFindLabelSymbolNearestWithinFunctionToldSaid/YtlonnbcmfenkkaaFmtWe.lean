/-
  WALKS. The thin wrapper over findLabelSymbol.
-/
import Derived.Test.YtlonnbcmfenkkaaFmtWd
namespace Go.Proofs.YtlonnbcmfenkkaaFmt
open Go.RowKit

set_option maxRecDepth 100000 in
set_option maxHeartbeats 2000000 in
theorem zzfind_any (p Y n cap j : Nat) (sc : Nat → Nat) (z : Nat → Int) (name : ByteArray) (lb : Nat → ByteArray) (cnt loc : Int) (w : World) (hp : PS w p (sc 0) (.slice (some ⟨Y, 0, none⟩) n cap)) (hch : Chain w Y n sc z name lb)
    (hj : Near z n j) (hn : n ≤ 4096) (hpY : p ≠ Y) (hc : w.cell? ⟨Y, 10 * j + 4, none⟩ = some (.int .u32 cnt)) (hf : w.frozen? ⟨Y, 10 * j + 4, none⟩ = false) (h0 : 0 ≤ cnt) (h1 : cnt ≤ 100) (B : Nat) (hB : B ≤ Y) :
    Calls Tryf.prog 10 #[.pointer (some ⟨p, 0, none⟩), .agg #[.int .i32 loc], .string name] w fun e w' =>
      e = .returned (.tuple #[.agg #[.int .u32 0, .int .u32 j], .bool (loopOf z j), .bool true]) ∧ Step B Y (10 * j + 4) w w' ∧ w'.cell? ⟨Y, 10 * j + 4, none⟩ = some (.int .u32 (cnt + 1)) := by
  have hY := hch.y
  have H1 := Lib.hid (And.intro hp (And.intro hch (And.intro hc (And.intro hf hj))))
  clear hp hch hc hf
  go_enter Tryf.func10, Tryf.ntmps10
  go_wp2_with fail
  have hb : Below w.heap.size w ((w.alloc (.cells #[.int .i32 loc] 38)).alloc (.cells #[.int .u32 0, .int .u32 0] 34)) := ((Below.refl _ _).alloc (Nat.le_refl _) _).alloc (by simp) _
  obtain ⟨hp, hch, hc, hf, hj⟩ := H1.out
  refine (find_any p Y n cap j sc z name lb cnt loc _ (hp.below hb) (hch.below hb) hj hn hpY ((hb.cell (p := ⟨Y, 10 * j + 4, none⟩) hY).trans hc) ((hb.frozen (p := ⟨Y, 10 * j + 4, none⟩) hY).trans hf) h0 h1 B hB).mono ?_
  rintro e w2 ⟨rfl, hst, hc2⟩
  have hz : w.heap.size + 2 ≤ w2.heap.size := by have := hst.size; simpa using this
  have hY2 : Y ≠ w.heap.size + 1 := by omega
  have hR0 : w2.cell? ⟨w.heap.size + 1, 0, none⟩ = some (.int .u32 0) := (hst.cell _ _ (by simp) (fun e => by omega)).trans (by simp)
  have hR1 : w2.cell? ⟨w.heap.size + 1, 1, none⟩ = some (.int .u32 0) := (hst.cell _ _ (by simp) (fun e => by omega)).trans (by simp)
  have hG0 : w2.frozen? ⟨w.heap.size + 1, 0, none⟩ = false := (hst.frozen _ _ (by simp)).trans (by simp)
  have hG1 : w2.frozen? ⟨w.heap.size + 1, 1, none⟩ = false := (hst.frozen _ _ (by simp)).trans (by simp)
  have hfin : Step B Y (10 * j + 4) w w2 := (Step.of_below (by omega) hb).trans hst
  have hBw : B ≤ w.heap.size + 1 := by omega
  clear hst hb hp hch hc hf hj H1
  go_wp2
  refine bodyPost_ret (v := .tuple #[.agg #[.int .u32 0, .int .u32 j], .bool (loopOf z j), .bool true]) (by simp [results, Tryf.results10, go_sem, *]) rfl ⟨rfl, (hfin.high (by omega) hBw _).high (by omega) hBw _, ?_⟩
  go_simp
end Go.Proofs.YtlonnbcmfenkkaaFmt
