/-
  WALKS. FnFindLabelSymbolRepeatsStably, where there are scopes.
-/
import Derived.Test.YtlonnbcmfenkkaaFmtWi
namespace Go.Proofs.YtlonnbcmfenkkaaFmt
open Go.RowKit

/-- what stays true while the label is resolved again and again -/
structure Rep (W w : World) (p Y n j R : Nat) (sc : Nat → Nat) (z : Nat → Int) (name : ByteArray) (lb : Nat → ByteArray) (k : Nat) : Prop where
  ps : PS w p (sc 0) (.slice (some ⟨Y, 0, none⟩) n n)
  ch : Chain w Y n sc z name lb
  cnt : w.cell? ⟨Y, 10 * j + 4, none⟩ = some (.int .u32 k)
  fz : w.frozen? ⟨Y, 10 * j + 4, none⟩ = false
  bel : Below W.heap.size W w
  r : R < w.heap.size
  r0 : w.cell? ⟨R, 0, none⟩ = some (.int .u32 0)
  r1 : w.cell? ⟨R, 1, none⟩ = some (.int .u32 j)

theorem Rep.below {W w w' : World} {p Y n j R : Nat} {sc : Nat → Nat} {z : Nat → Int} {name : ByteArray} {lb : Nat → ByteArray} {k : Nat} (h : Rep W w p Y n j R sc z name lb k) (b : Below w.heap.size w w') : Rep W w' p Y n j R sc z name lb k :=
  ⟨h.ps.below b, h.ch.below b, (b.cell (p := ⟨Y, 10 * j + 4, none⟩) h.ch.y).trans h.cnt, (b.frozen (p := ⟨Y, 10 * j + 4, none⟩) h.ch.y).trans h.fz, h.bel.trans (b.mono h.bel.size), Nat.lt_of_lt_of_le h.r b.size,
   (b.cell (p := ⟨R, 0, none⟩) h.r).trans h.r0, (b.cell (p := ⟨R, 1, none⟩) h.r).trans h.r1⟩
theorem Rep.step {W w w' : World} {p Y n j R : Nat} {sc : Nat → Nat} {z : Nat → Int} {name : ByteArray} {lb : Nat → ByteArray} {k k' : Nat} (h : Rep W w p Y n j R sc z name lb k) (hpY : p ≠ Y) (hRY : R ≠ Y) (s : Step W.heap.size Y (10 * j + 4) w w')
    (hc : w'.cell? ⟨Y, 10 * j + 4, none⟩ = some (.int .u32 k')) : Rep W w' p Y n j R sc z name lb k' :=
  ⟨h.ps.step s hpY, h.ch.step s, hc, (s.frozen _ _ h.ch.y).trans h.fz, h.bel.trans s.below, Nat.lt_of_lt_of_le h.r s.size, (s.cell _ _ h.r (fun e => hRY e.1)).trans h.r0, (s.cell _ _ h.r (fun e => hRY e.1)).trans h.r1⟩

set_option maxRecDepth 100000 in
set_option maxHeartbeats 2000000 in
theorem reps_main (g off n cap : Nat) (z : Nat → Int) (name : ByteArray) (r : Int) (w : World) (hcap : n ≤ cap) (hz : Bytes w g off n z) (h4 : n ≤ 4096) (h1 : 0 < n) (hname : name.size ≤ 65536) (hr0 : 0 ≤ r) (hr1 : r ≤ 255) :
    Calls Tryf.prog 3 #[.slice (some ⟨g, off, none⟩) n cap, .string name, .int .u8 r] w fun e w' => e = .returned (.bool true) ∧ Below w.heap.size w w' := by
  obtain ⟨m, rfl⟩ : ∃ m, n = m + 1 := ⟨n - 1, by omega⟩
  obtain ⟨q, hq⟩ : ∃ q : Nat, r % 16 = (q : Int) := ⟨(r % 16).toNat, by omega⟩
  have hq15 : q ≤ 15 := by omega
  go_enter Tryf.func3, Tryf.ntmps3
  go_wp2_with (first | (go_at_call 6; refine (bytes_reps _ _ _ _ _ _ h4 hname).mono ?_; rintro e w1 ⟨rfl, rfl⟩) | fail)
  refine (near_any g off (m + 1) cap z _ hcap hz h4).mono ?_
  rintro e w1 ⟨rfl, j, rfl, hj⟩
  rcases hj with rfl | ⟨j, rfl, hj⟩
  · go_wp2
    go_ret
    exact ⟨rfl, Below.refl _ _⟩
  · have hj' := Lib.hid hj
    go_wp2_with fail
    refine (build_any g off (m + 1) cap z name _ hcap hz h4 h1 hname).mono ?_
    rintro e w2 ⟨Y, sc, rfl, hSY, hb, hch, hrow, hS, hcnt⟩
    have r0 := hrow 0 h1
    have r1 := hrow m (by omega)
    have hwr : IntKind.i64.wrap (m : Int) = (m : Int) := Lib.wrap_i64_small m (by omega)
    have H1 := Lib.hid (And.intro hb (And.intro hch (And.intro hrow hcnt)))
    clear hb hch hrow hcnt
    go_wp2_with fail
    go_still_tail 9, (by kernel_rfl)
    change wpList _ _ _ _ _ w2.drew
    go_wp2_with fail
    refine (new_any _ _ _ _ _ _).mono ?_
    rintro e w3 ⟨rfl, rfl⟩
    obtain ⟨hb, hch, hrow, hcnt⟩ := H1.out
    clear H1
    go_wp2_with fail
    have hjn : j < m + 1 := by have := hj.1; omega
    have b23 : Below w2.heap.size w2 ((w2.alloc (.cells (pcells (.pointer (some ⟨sc 0, 0, none⟩)) (.pointer (some ⟨sc m, 0, none⟩)) (.slice (some ⟨Y, 0, none⟩) (m + 1) (m + 1))) 182)).drew) := ((Below.refl _ _).alloc (Nat.le_refl _) _).drew
    have hYw := hch.y
    have hp3 := (new_ps (sc 0) (sc m) (some ⟨Y, 0, none⟩) (m + 1) (m + 1) w2).below (Below.refl _ _).drew
    have hB3 : w1.heap.size ≤ w2.heap.size := Nat.le_of_lt hS
    refine (zzfind_any w2.heap.size Y (m + 1) (m + 1) j sc z name (lbl z name) 0 0 _ hp3 (hch.below b23) hj h4 (by omega) ((b23.cell (p := ⟨Y, 10 * j + 4, none⟩) hYw).trans (hcnt j hjn).1) ((b23.frozen (p := ⟨Y, 10 * j + 4, none⟩) hYw).trans (hcnt j hjn).2) (by omega) (by omega) w1.heap.size (by omega)).mono ?_
    rintro e w4 ⟨rfl, hst, hc4⟩
    have hs4 := hst.size
    have hbel4 : Below w1.heap.size w1 w4 := (hb.trans (b23.mono hB3)).trans hst.below
    have hp4 := hp3.step hst (by omega)
    have hch4 := (hch.below b23).step hst
    have hf4 := (hst.frozen _ _ (Nat.lt_of_lt_of_le hYw b23.size)).trans ((b23.frozen (p := ⟨Y, 10 * j + 4, none⟩) hYw).trans (hcnt j hjn).2)
    have hYw4 : Y < w4.heap.size := Nat.lt_of_lt_of_le (Nat.lt_of_lt_of_le hYw b23.size) hs4
    have hRY : w4.heap.size ≠ Y := by omega
    have hpY : w2.heap.size ≠ Y := by omega
    have b45 : Below w4.heap.size w4 (w4.alloc (.cells #[.int .u32 0, .int .u32 j] 34)) := (Below.refl _ _).alloc (Nat.le_refl _) _
    have hrep : Rep w1 (w4.alloc (.cells #[.int .u32 0, .int .u32 j] 34)) w2.heap.size Y (m + 1) j w4.heap.size sc z name (lbl z name) 1 :=
      ⟨hp4.below b45, hch4.below b45, (b45.cell (p := ⟨Y, 10 * j + 4, none⟩) hYw4).trans hc4, (b45.frozen (p := ⟨Y, 10 * j + 4, none⟩) hYw4).trans hf4, hbel4.trans (b45.mono hbel4.size), by simp, by simp, by simp⟩
    clear hst hc4 hs4 hcnt hp3 b23 hrow hch hb r0 r1 hbel4 hp4 hch4 hf4 b45 hYw4
    generalize hloop : loopOf z j = lo
    replace hrep := Lib.hid hrep
    go_wp2
    go_loopw [16] (fun i wr => ∃ k : Nat, 1 ≤ k ∧ k ≤ q + 1 ∧ i = .int .i64 k ∧ Rep w1 wr w2.heap.size Y (m + 1) j w4.heap.size sc z name (lbl z name) k) (fun i _ => q + 1 - (intOf i).toNat)
    case atStart => exact ⟨1, by omega, by omega, rfl, hrep.out⟩
    case round =>
      obtain ⟨k, hk1, hk, rfl, hrep⟩ := hrel
      by_cases hlt : k < q + 1
      · replace hrep := Lib.hid hrep
        go_wp2_with fail
        refine (zzfind_any w2.heap.size Y (m + 1) (m + 1) j sc z name (lbl z name) k 0 _ hrep.out.ps hrep.out.ch hj h4 hpY hrep.out.cnt hrep.out.fz (by omega) (by omega) w1.heap.size (by omega)).mono ?_
        rintro e w5 ⟨rfl, hst, hc5⟩
        have hrep5 := hrep.out.step (k' := k + 1) hpY hRY hst (hc5.trans (by simp))
        rw [hloop]
        have hr5 := hrep5.r
        have hr50 := hrep5.r0
        have hr51 := hrep5.r1
        have hne5 : w4.heap.size ≠ w5.heap.size := by omega
        clear hst hc5
        replace hrep5 := Lib.hid hrep5
        go_wp2
        go_roundw
        case rel => exact ⟨k + 1, by omega, by omega, by go_num, hrep5.out.below ((Below.refl _ _).alloc (Nat.le_refl _) _)⟩
        case measure => simp [intOf]; omega
      · obtain rfl : k = q + 1 := by omega
        have hc := hrep.cnt
        have hq0 := hrep.r0
        have hq1 := hrep.r1
        have hb := hrep.bel
        have e1 : j * 10 + 4 = 10 * j + 4 := by omega
        go_wp2_with (first | (go_at_call 11; refine (symbols_any _ _ _ _ hrep.ps).mono ?_; rintro e w6 ⟨rfl, rfl⟩) | fail)
        go_ret
        exact ⟨rfl, hb⟩
end Go.Proofs.YtlonnbcmfenkkaaFmt
