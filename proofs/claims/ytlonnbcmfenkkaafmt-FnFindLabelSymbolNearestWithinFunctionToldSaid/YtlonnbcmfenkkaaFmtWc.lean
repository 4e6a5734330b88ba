/-
  WALKS. recordUsage: one more use of a symbol is counted in its cell, and nothing else that was there turns.
-/
import Derived.Test.YtlonnbcmfenkkaaFmtWb
namespace Go.Proofs.YtlonnbcmfenkkaaFmt
open Go.RowKit

/-- what a counted use leaves: one cell of the symbols' row has turned -/
structure Step (B Y o : Nat) (w w' : World) : Prop where
  size : w.heap.size ≤ w'.heap.size
  cell : ∀ b off, b < w.heap.size → ¬ (b = Y ∧ off = o) → w'.cell? ⟨b, off, none⟩ = w.cell? ⟨b, off, none⟩
  frozen : ∀ b off, b < w.heap.size → w'.frozen? ⟨b, off, none⟩ = w.frozen? ⟨b, off, none⟩
  below : Below B w w'

theorem Step.of_below {B Y o : Nat} {w w' : World} (hB : B ≤ w.heap.size) (h : Below w.heap.size w w') : Step B Y o w w' :=
  ⟨h.size, fun b off hb _ => h.cell (p := ⟨b, off, none⟩) hb, fun b off hb => h.frozen (p := ⟨b, off, none⟩) hb, h.mono hB⟩
theorem Step.trans {B Y o : Nat} {a b c : World} (h : Step B Y o a b) (k : Step B Y o b c) : Step B Y o a c :=
  ⟨Nat.le_trans h.size k.size, fun x off hx hn => (k.cell x off (Nat.lt_of_lt_of_le hx h.size) hn).trans (h.cell x off hx hn),
   fun x off hx => (k.frozen x off (Nat.lt_of_lt_of_le hx h.size)).trans (h.frozen x off hx), h.below.trans k.below⟩
theorem Step.setCell {B Y o : Nat} (w : World) (v : Value) (hB : B ≤ Y) : Step B Y o w (w.setCell ⟨Y, o, none⟩ v) :=
  ⟨by simp [World.setCell], fun b off _ hn => by
    by_cases hb : b = Y
    · subst hb
      have ho : off ≠ o := fun h => hn ⟨rfl, h⟩
      have ho' : o ≠ off := fun h => ho h.symm
      go_simp
    · have hb' : Y ≠ b := fun h => hb h.symm
      go_simp, fun b off _ => by go_simp, (Below.refl _ _).setCell (p := ⟨Y, o, none⟩) hB _⟩

set_option maxRecDepth 100000 in
set_option maxHeartbeats 1000000 in
theorem use_any (p c Y n cap j : Nat) (cnt : Int) (w : World) (hp : PS w p c (.slice (some ⟨Y, 0, none⟩) n cap)) (hj : j < n) (hn : n ≤ 4096) (hY : Y < w.heap.size) (hpY : p ≠ Y)
    (hc : w.cell? ⟨Y, 10 * j + 4, none⟩ = some (.int .u32 cnt)) (hf : w.frozen? ⟨Y, 10 * j + 4, none⟩ = false) (h0 : 0 ≤ cnt) (h1 : cnt ≤ 100) (B : Nat) (hB : B ≤ Y) :
    Calls Tryf.prog 20 #[.pointer (some ⟨p, 0, none⟩), .agg #[.int .u32 0, .int .u32 j]] w fun e w' => e = .returned (.tuple #[]) ∧ Step B Y (10 * j + 4) w w' ∧ w'.cell? ⟨Y, 10 * j + 4, none⟩ = some (.int .u32 (cnt + 1)) := by
  have k1 := hp.c32
  have k2 := hp.c105
  have k3 := hp.c106
  have k4 := hp.c350
  have kp := hp.h
  have e1 : j * 10 + 4 = 10 * j + 4 := by omega
  clear hp
  go_enter Tryf.func20, Tryf.ntmps20
  go_wp2_with fail
  go_region
  go_wp2
  go_end0
  refine ⟨rfl, ?_, ?_⟩
  · exact (Step.setCell (B := B) w _ hB).trans (.of_below (by simp [World.setCell]; omega) ((Below.refl _ _).alloc (Nat.le_refl _) _).drew)
  · go_simp
end Go.Proofs.YtlonnbcmfenkkaaFmt
