/-
  WALKS. zzBuildLabelChain: the scopes and their labels' symbols: the walk.
-/
import Derived.Test.YtlonnbcmfenkkaaFmtWf
namespace Go.Proofs.YtlonnbcmfenkkaaFmt
open Go.RowKit

set_option maxRecDepth 100000 in
set_option maxHeartbeats 2000000 in
theorem build_any (g off n cap : Nat) (z : Nat → Int) (name : ByteArray) (w : World) (hcap : n ≤ cap) (hz : Bytes w g off n z) (h4 : n ≤ 4096) (h1 : 0 < n) (hname : name.size ≤ 65536) :
    Calls Tryf.prog 8 #[.slice (some ⟨g, off, none⟩) n cap, .string name] w fun e w' => ∃ Y sc, e = .returned (.tuple #[.slice (some ⟨w.heap.size, 0, none⟩) n n, .slice (some ⟨Y, 0, none⟩) n n]) ∧ w.heap.size < Y ∧
      Below w.heap.size w w' ∧ Chain w' Y n sc z name (lbl z name) ∧ (∀ i, i < n → w'.cell? ⟨w.heap.size, i, none⟩ = some (.pointer (some ⟨sc i, 0, none⟩))) ∧ w.heap.size < w'.heap.size ∧
      (∀ i, i < n → w'.cell? ⟨Y, 10 * i + 4, none⟩ = some (.int .u32 0) ∧ w'.frozen? ⟨Y, 10 * i + 4, none⟩ = false) := by
  obtain ⟨i0, hi, hz0, hz1, hz2⟩ := info_parts info31
  obtain ⟨i1, hj, hy0, hy1, hy2⟩ := info_parts info48
  have hb1 : i0.bytes * n ≤ 281474976710656 := by rw [hz2]; omega
  have hb2 : i1.bytes * n ≤ 281474976710656 := by rw [hy2]; omega
  go_enter Tryf.func8, Tryf.ntmps8
  go_wp2_with (first | (at_make; refine wpList_make_full _ rfl _ _ 25 rfl w.heap.size 31 i0 (.pointer none) 1 Tryf.underlying25 hi hz0 hz1 .i64 .i64 n n n rfl rfl rfl rfl ?c1 ?c2 ?c3 ?_))
  case c1 => exact hb1
  case c2 => unfold maxLen; omega
  case c3 => exact Nat.le_refl _
  intro w1 hown hg
  go_wp2_with (first | (at_make; refine wpList_make_own _ rfl _ _ 26 rfl (w.heap.size + 1) 48 i1 z48 10 Tryf.underlying26 hj hy0 hy1 .i64 .i64 n n rfl rfl rfl ?d1 ?d2 ?d3 ?_))
  case d1 => exact hb2
  case d2 => unfold maxLen; omega
  case d3 => exact hown.lt_own
  intro w2 hown2 hg2
  have hbel1 : Below w.heap.size w w1 := (Below.refl _ _).grown hg (Nat.le_refl _) (by simp)
  have hbel2 : Below w.heap.size w w2 := hbel1.grown hg2 hbel1.size (by simp)
  have hSY : w.heap.size < w1.heap.size := hown.lt_own
  have hrow2 : RowS w2 w.heap.size n := (hown.rowS).below (grown_below hg2) hSY
  clear hown hg hg2 hbel1 hb1 hb2
  go_wp2
  go_loopw [8, 9] (fun a i wr => ∃ (k : Nat) (sc : Nat → Nat), k ≤ n ∧ a = .slice (some ⟨w1.heap.size, 0, none⟩) k n ∧ i = .int .i64 k ∧ Below w.heap.size w wr ∧
      wr.ownsRow (w.heap.size + 1) 48 10 (.slice (some ⟨w1.heap.size, 0, none⟩) k n) k (syms z name k) ∧ Part wr w.heap.size w1.heap.size n k sc z ∧ RowS wr w.heap.size n) (fun _ i _ => n - (intOf i).toNat)
  case atStart => exact ⟨0, fun _ => 0, Nat.zero_le _, rfl, rfl, hbel2, hown2, Part.zero .., hrow2⟩
  case round =>
    obtain ⟨k, sc, hk, rfl, rfl, hbel, hown, hpart, hrow⟩ := hrel
    clear hown2 hbel2 hrow2
    by_cases hlt : k < n
    · have hc : wr.cell? ⟨g, off + k, none⟩ = some (.int .u8 (z k)) := (hbel.cell (p := ⟨g, off + k, none⟩) hz.h).trans (hz.c k hlt)
      have hz0 := hz.lo k hlt
      have hz1 := hz.hi k hlt
      have hgr : g < wr.heap.size := Nat.lt_of_lt_of_le hz.h hbel.size
      have hgS : g ≠ w.heap.size := Nat.ne_of_lt hz.h
      obtain ⟨v, hv⟩ := hrow.some k hlt
      have hfv := hrow.fz k
      have hYr := hown.lt_own'
      have hSr : w.heap.size < wr.heap.size := by omega
      have H1 := Lib.hid (And.intro hbel (And.intro hown (And.intro hpart hrow)))
      clear hbel hown hpart hrow
      have hmm := @run_makeMap Tryf.prog
      have hb48 : (bits .and .u8 (z k) 4 != 0) = true ∨ (bits .and .u8 (z k) 4 != 0) = false := by cases (bits .and .u8 (z k) 4 != 0) <;> simp
      by_cases hlast : k + 1 = n
      · have hl : ((k : Int) == (n : Int) - 1) = true := by simp; omega
        have hK : kindOf z n k = 6 := by unfold kindOf; rw [if_pos hlast]
        replace hlast := Lib.hid hlast
        rcases hb48 with hb | hb
        · have hL : lbl z name k = name := by unfold lbl; rw [if_pos hb]
          go_wp2_with (first
            | (go_at_call 16; refine (noref_any _).mono ?_; rintro e w3 ⟨rfl, hb3⟩; have hb3 := Lib.hid hb3)
            | (at_builtin; refine wpList_append_fits _ rfl (.tmp 66) (.tmp 70) 26 rfl (w.heap.size + 1) 48 i1 10 Tryf.underlying26 hj hy1 w1.heap.size k n (syms z name k) rfl ?own ⟨w3.heap.size, 0, none⟩ 1 1 (sym name) rfl rfl ?c1 ?c2 ?c3 ?_)
            | fail)
          case own => exact round_own H1.out.2.1 hSY (hb3.out) _
          case c1 => exact sym_cells _ _
          case c2 => exact sym_one _
          case c3 => omega
          intro w5 hown5 hg5
          go_wp2
          go_roundw
          case rel =>
            obtain ⟨hbel, hown, hpart, hrow⟩ := H1.out
            obtain ⟨q1, q2, q3, q4⟩ := round_rel hbel hown hpart hrow hSY hlt hK hL hb3.out _ hg5 hown5
            exact ⟨k + 1, _, by omega, rfl, by go_num, q1, q2, q3, q4⟩
          case measure => simp [intOf]; omega
        · have hL : lbl z name k = name ++ ⟨#[35]⟩ := by unfold lbl; rw [if_neg (by rw [hb]; simp)]
          go_wp2_with (first
            | (go_at_call 16; refine (noref_any _).mono ?_; rintro e w3 ⟨rfl, hb3⟩; have hb3 := Lib.hid hb3)
            | (at_builtin; refine wpList_append_fits _ rfl (.tmp 66) (.tmp 70) 26 rfl (w.heap.size + 1) 48 i1 10 Tryf.underlying26 hj hy1 w1.heap.size k n (syms z name k) rfl ?own ⟨w3.heap.size, 0, none⟩ 1 1 (sym (name ++ ⟨#[35]⟩)) rfl rfl ?c1 ?c2 ?c3 ?_)
            | fail)
          case own => exact round_own H1.out.2.1 hSY (hb3.out) _
          case c1 => exact sym_cells _ _
          case c2 => exact sym_one _
          case c3 => omega
          intro w5 hown5 hg5
          go_wp2
          go_roundw
          case rel =>
            obtain ⟨hbel, hown, hpart, hrow⟩ := H1.out
            obtain ⟨q1, q2, q3, q4⟩ := round_rel hbel hown hpart hrow hSY hlt hK hL hb3.out _ hg5 hown5
            exact ⟨k + 1, _, by omega, rfl, by go_num, q1, q2, q3, q4⟩
          case measure => simp [intOf]; omega
      · have hl : ((k : Int) == (n : Int) - 1) = false := by simp; omega
        have h3 : z k % 3 = 0 ∨ z k % 3 = 1 ∨ z k % 3 = 2 := by omega
        rcases h3 with h3 | h3 | h3
        · have hK : kindOf z n k = 0 := by unfold kindOf; rw [if_neg hlast, if_neg (by omega), if_neg (by omega)]
          replace hlast := Lib.hid hlast
          rcases hb48 with hb | hb
          · have hL : lbl z name k = name := by unfold lbl; rw [if_pos hb]
            go_wp2_with (first
              | (go_at_call 16; refine (noref_any _).mono ?_; rintro e w3 ⟨rfl, hb3⟩; have hb3 := Lib.hid hb3)
              | (at_builtin; refine wpList_append_fits _ rfl (.tmp 66) (.tmp 70) 26 rfl (w.heap.size + 1) 48 i1 10 Tryf.underlying26 hj hy1 w1.heap.size k n (syms z name k) rfl ?own ⟨w3.heap.size, 0, none⟩ 1 1 (sym name) rfl rfl ?c1 ?c2 ?c3 ?_)
              | fail)
            case own => exact round_own H1.out.2.1 hSY (hb3.out) _
            case c1 => exact sym_cells _ _
            case c2 => exact sym_one _
            case c3 => omega
            intro w5 hown5 hg5
            go_wp2
            go_roundw
            case rel =>
              obtain ⟨hbel, hown, hpart, hrow⟩ := H1.out
              obtain ⟨q1, q2, q3, q4⟩ := round_rel hbel hown hpart hrow hSY hlt hK hL hb3.out _ hg5 hown5
              exact ⟨k + 1, _, by omega, rfl, by go_num, q1, q2, q3, q4⟩
            case measure => simp [intOf]; omega
          · have hL : lbl z name k = name ++ ⟨#[35]⟩ := by unfold lbl; rw [if_neg (by rw [hb]; simp)]
            go_wp2_with (first
              | (go_at_call 16; refine (noref_any _).mono ?_; rintro e w3 ⟨rfl, hb3⟩; have hb3 := Lib.hid hb3)
              | (at_builtin; refine wpList_append_fits _ rfl (.tmp 66) (.tmp 70) 26 rfl (w.heap.size + 1) 48 i1 10 Tryf.underlying26 hj hy1 w1.heap.size k n (syms z name k) rfl ?own ⟨w3.heap.size, 0, none⟩ 1 1 (sym (name ++ ⟨#[35]⟩)) rfl rfl ?c1 ?c2 ?c3 ?_)
              | fail)
            case own => exact round_own H1.out.2.1 hSY (hb3.out) _
            case c1 => exact sym_cells _ _
            case c2 => exact sym_one _
            case c3 => omega
            intro w5 hown5 hg5
            go_wp2
            go_roundw
            case rel =>
              obtain ⟨hbel, hown, hpart, hrow⟩ := H1.out
              obtain ⟨q1, q2, q3, q4⟩ := round_rel hbel hown hpart hrow hSY hlt hK hL hb3.out _ hg5 hown5
              exact ⟨k + 1, _, by omega, rfl, by go_num, q1, q2, q3, q4⟩
            case measure => simp [intOf]; omega
        · have hK : kindOf z n k = 2 := by unfold kindOf; rw [if_neg hlast, if_pos h3]
          replace hlast := Lib.hid hlast
          rcases hb48 with hb | hb
          · have hL : lbl z name k = name := by unfold lbl; rw [if_pos hb]
            go_wp2_with (first
              | (go_at_call 16; refine (noref_any _).mono ?_; rintro e w3 ⟨rfl, hb3⟩; have hb3 := Lib.hid hb3)
              | (at_builtin; refine wpList_append_fits _ rfl (.tmp 66) (.tmp 70) 26 rfl (w.heap.size + 1) 48 i1 10 Tryf.underlying26 hj hy1 w1.heap.size k n (syms z name k) rfl ?own ⟨w3.heap.size, 0, none⟩ 1 1 (sym name) rfl rfl ?c1 ?c2 ?c3 ?_)
              | fail)
            case own => exact round_own H1.out.2.1 hSY (hb3.out) _
            case c1 => exact sym_cells _ _
            case c2 => exact sym_one _
            case c3 => omega
            intro w5 hown5 hg5
            go_wp2
            go_roundw
            case rel =>
              obtain ⟨hbel, hown, hpart, hrow⟩ := H1.out
              obtain ⟨q1, q2, q3, q4⟩ := round_rel hbel hown hpart hrow hSY hlt hK hL hb3.out _ hg5 hown5
              exact ⟨k + 1, _, by omega, rfl, by go_num, q1, q2, q3, q4⟩
            case measure => simp [intOf]; omega
          · have hL : lbl z name k = name ++ ⟨#[35]⟩ := by unfold lbl; rw [if_neg (by rw [hb]; simp)]
            go_wp2_with (first
              | (go_at_call 16; refine (noref_any _).mono ?_; rintro e w3 ⟨rfl, hb3⟩; have hb3 := Lib.hid hb3)
              | (at_builtin; refine wpList_append_fits _ rfl (.tmp 66) (.tmp 70) 26 rfl (w.heap.size + 1) 48 i1 10 Tryf.underlying26 hj hy1 w1.heap.size k n (syms z name k) rfl ?own ⟨w3.heap.size, 0, none⟩ 1 1 (sym (name ++ ⟨#[35]⟩)) rfl rfl ?c1 ?c2 ?c3 ?_)
              | fail)
            case own => exact round_own H1.out.2.1 hSY (hb3.out) _
            case c1 => exact sym_cells _ _
            case c2 => exact sym_one _
            case c3 => omega
            intro w5 hown5 hg5
            go_wp2
            go_roundw
            case rel =>
              obtain ⟨hbel, hown, hpart, hrow⟩ := H1.out
              obtain ⟨q1, q2, q3, q4⟩ := round_rel hbel hown hpart hrow hSY hlt hK hL hb3.out _ hg5 hown5
              exact ⟨k + 1, _, by omega, rfl, by go_num, q1, q2, q3, q4⟩
            case measure => simp [intOf]; omega
        · have hK : kindOf z n k = 8 := by unfold kindOf; rw [if_neg hlast, if_neg (by omega), if_pos h3]
          replace hlast := Lib.hid hlast
          rcases hb48 with hb | hb
          · have hL : lbl z name k = name := by unfold lbl; rw [if_pos hb]
            go_wp2_with (first
              | (go_at_call 16; refine (noref_any _).mono ?_; rintro e w3 ⟨rfl, hb3⟩; have hb3 := Lib.hid hb3)
              | (at_builtin; refine wpList_append_fits _ rfl (.tmp 66) (.tmp 70) 26 rfl (w.heap.size + 1) 48 i1 10 Tryf.underlying26 hj hy1 w1.heap.size k n (syms z name k) rfl ?own ⟨w3.heap.size, 0, none⟩ 1 1 (sym name) rfl rfl ?c1 ?c2 ?c3 ?_)
              | fail)
            case own => exact round_own H1.out.2.1 hSY (hb3.out) _
            case c1 => exact sym_cells _ _
            case c2 => exact sym_one _
            case c3 => omega
            intro w5 hown5 hg5
            go_wp2
            go_roundw
            case rel =>
              obtain ⟨hbel, hown, hpart, hrow⟩ := H1.out
              obtain ⟨q1, q2, q3, q4⟩ := round_rel hbel hown hpart hrow hSY hlt hK hL hb3.out _ hg5 hown5
              exact ⟨k + 1, _, by omega, rfl, by go_num, q1, q2, q3, q4⟩
            case measure => simp [intOf]; omega
          · have hL : lbl z name k = name ++ ⟨#[35]⟩ := by unfold lbl; rw [if_neg (by rw [hb]; simp)]
            go_wp2_with (first
              | (go_at_call 16; refine (noref_any _).mono ?_; rintro e w3 ⟨rfl, hb3⟩; have hb3 := Lib.hid hb3)
              | (at_builtin; refine wpList_append_fits _ rfl (.tmp 66) (.tmp 70) 26 rfl (w.heap.size + 1) 48 i1 10 Tryf.underlying26 hj hy1 w1.heap.size k n (syms z name k) rfl ?own ⟨w3.heap.size, 0, none⟩ 1 1 (sym (name ++ ⟨#[35]⟩)) rfl rfl ?c1 ?c2 ?c3 ?_)
              | fail)
            case own => exact round_own H1.out.2.1 hSY (hb3.out) _
            case c1 => exact sym_cells _ _
            case c2 => exact sym_one _
            case c3 => omega
            intro w5 hown5 hg5
            go_wp2
            go_roundw
            case rel =>
              obtain ⟨hbel, hown, hpart, hrow⟩ := H1.out
              obtain ⟨q1, q2, q3, q4⟩ := round_rel hbel hown hpart hrow hSY hlt hK hL hb3.out _ hg5 hown5
              exact ⟨k + 1, _, by omega, rfl, by go_num, q1, q2, q3, q4⟩
            case measure => simp [intOf]; omega
    · obtain rfl : k = n := by omega
      have hhalf := hpart.half
      go_wp2
      go_loopw [12] (fun i wr2 => ∃ m : Nat, m + 1 ≤ k ∧ i = .int .i64 m ∧ Below w.heap.size w wr2 ∧ wr2.ownsRow (w.heap.size + 1) 48 10 (.slice (some ⟨w1.heap.size, 0, none⟩) k k) k (syms z name k) ∧ Half wr2 w.heap.size w1.heap.size k m sc z) (fun i _ => k - (intOf i).toNat)
      case atStart => exact ⟨0, by omega, rfl, hbel, hown, hhalf⟩
      case round =>
        obtain ⟨m, hm, rfl, hbel2, hown2, hhalf2⟩ := hrel
        clear hhalf hpart hrow hown hbel hlt hk
        by_cases hlt : m + 1 < k
        · have r0 := hhalf2.row m (by omega)
          have r1 := hhalf2.row (m + 1) hlt
          have r2 := hhalf2.par m (by omega)
          have r3 := hhalf2.fz m (by omega)
          have l1 := hhalf2.lo m (by omega)
          have l2 := hhalf2.lt m (by omega)
          have H1 := Lib.hid (And.intro hbel2 (And.intro hown2 hhalf2))
          clear hbel2 hown2 hhalf2
          go_wp2_with fail
          go_region
          go_wp2
          go_roundw
          case rel =>
            obtain ⟨hbel2, hown2, hhalf2⟩ := H1.out
            refine ⟨m + 1, by omega, by go_num, ?_, ?_, ?_⟩
            · exact (hbel2.setCell (p := ⟨sc m, 1, none⟩) (by show w.heap.size ≤ sc m; omega) _).drew
            · exact own_keep hown2 (Below.heap_setCell _ _ _ _ (by show w1.heap.size ≠ sc m; omega))
            · exact hhalf2.next hSY hlt _
          case measure => simp [intOf]; omega
        · have hmk : m + 1 = k := by omega
          obtain ⟨q1, q2⟩ := chain_of hhalf2 hmk hown2
          go_wp2
          go_ret2
          exact ⟨_, sc, rfl, hSY, hbel2, q1, hhalf2.row, Nat.lt_trans hSY hown2.lt_own', q2⟩
end Go.Proofs.YtlonnbcmfenkkaaFmt
