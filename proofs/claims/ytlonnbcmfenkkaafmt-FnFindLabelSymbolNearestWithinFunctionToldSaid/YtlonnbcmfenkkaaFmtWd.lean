/-
  WALKS. findLabelSymbol over a chain of scopes: it answers the nearest label and counts one use.
-/
import Derived.Test.YtlonnbcmfenkkaaFmtWc
namespace Go.Proofs.YtlonnbcmfenkkaaFmt
open Go.RowKit

/-- a write to a block that was made since -/
theorem Step.high {B Y o : Nat} {w w2 : World} (h : Step B Y o w w2) {b off : Nat} (hb : w.heap.size ≤ b) (hB : B ≤ b) (v : Value) : Step B Y o w (w2.setCell ⟨b, off, none⟩ v) :=
  ⟨by simpa [World.setCell] using h.size, fun x k hx hn => by
    have hne : b ≠ x := by omega
    refine Eq.trans ?_ (h.cell x k hx hn)
    go_simp,
   fun x k hx => by
    refine Eq.trans ?_ (h.frozen x k hx)
    go_simp, h.below.setCell (p := ⟨b, off, none⟩) hB v⟩

theorem below_drewN {B : Nat} {a w : World} (h : Below B a w) (n : Nat) : Below B a (w.drewN n) := ⟨h.os, h.tape, h.output, h.size, h.block⟩

def kindOf (z : Nat → Int) (n i : Nat) : Int := if i + 1 = n then 6 else if z i % 3 = 1 then 2 else if z i % 3 = 2 then 8 else 0
def loopOf (z : Nat → Int) (i : Nat) : Bool := bits .and .u8 (z i) 8 != 0

/-- the scopes, innermost first, and the symbols' names -/
structure Chain (w : World) (Y n : Nat) (sc : Nat → Nat) (z : Nat → Int) (name : ByteArray) (lb : Nat → ByteArray) : Prop where
  y : Y < w.heap.size
  lt : ∀ i, i < n → sc i < w.heap.size
  ne : ∀ i, i < n → sc i ≠ Y
  mono : ∀ i, i + 1 < n → sc i < sc (i + 1)
  kind : ∀ i, i < n → w.cell? ⟨sc i, 15, none⟩ = some (.int .u8 (kindOf z n i))
  par : ∀ i, i + 1 < n → w.cell? ⟨sc i, 1, none⟩ = some (.pointer (some ⟨sc (i + 1), 0, none⟩))
  src : ∀ i, i < n → w.cell? ⟨sc i, 8, none⟩ = some (.int .u32 0)
  inn : ∀ i, i < n → w.cell? ⟨sc i, 9, none⟩ = some (.int .u32 i)
  lp : ∀ i, i < n → w.cell? ⟨sc i, 10, none⟩ = some (.bool (loopOf z i))
  nm : ∀ i, i < n → w.cell? ⟨Y, 10 * i + 1, none⟩ = some (.string (lb i))
  yes : ∀ i, i < n → (bits .and .u8 (z i) 4 != 0) = true → lb i = name
  no : ∀ i, i < n → ¬ (bits .and .u8 (z i) 4 != 0) = true → (name.toList == (lb i).toList) = false

theorem Chain.step {w w' : World} {Y n : Nat} {sc : Nat → Nat} {z : Nat → Int} {name : ByteArray} {lb : Nat → ByteArray} (h : Chain w Y n sc z name lb) {B j : Nat} (k : Step B Y (10 * j + 4) w w') : Chain w' Y n sc z name lb :=
  { y := Nat.lt_of_lt_of_le h.y k.size
    lt := fun i hi => Nat.lt_of_lt_of_le (h.lt i hi) k.size
    ne := h.ne
    mono := h.mono
    kind := fun i hi => (k.cell _ _ (h.lt i hi) (fun e => h.ne i hi e.1)).trans (h.kind i hi)
    par := fun i hi => (k.cell _ _ (h.lt i (by omega)) (fun e => h.ne i (by omega) e.1)).trans (h.par i hi)
    src := fun i hi => (k.cell _ _ (h.lt i hi) (fun e => h.ne i hi e.1)).trans (h.src i hi)
    inn := fun i hi => (k.cell _ _ (h.lt i hi) (fun e => h.ne i hi e.1)).trans (h.inn i hi)
    lp := fun i hi => (k.cell _ _ (h.lt i hi) (fun e => h.ne i hi e.1)).trans (h.lp i hi)
    nm := fun i hi => (k.cell _ _ h.y (fun e => by omega)).trans (h.nm i hi)
    yes := h.yes
    no := h.no }
theorem Chain.below {w w' : World} {Y n : Nat} {sc : Nat → Nat} {z : Nat → Int} {name : ByteArray} {lb : Nat → ByteArray} (h : Chain w Y n sc z name lb) (b : Below w.heap.size w w') : Chain w' Y n sc z name lb :=
  h.step (B := 0) (j := 0) (.of_below (Nat.zero_le _) b)
theorem PS.step {w w' : World} {p c : Nat} {y : Value} (h : PS w p c y) {B Y o : Nat} (k : Step B Y o w w') (hY : p ≠ Y) : PS w' p c y :=
  ⟨Nat.lt_of_lt_of_le h.h k.size, (k.cell _ _ h.h (fun e => hY e.1)).trans h.c32, (k.cell _ _ h.h (fun e => hY e.1)).trans h.c104, (k.cell _ _ h.h (fun e => hY e.1)).trans h.c105, (k.cell _ _ h.h (fun e => hY e.1)).trans h.c106, (k.cell _ _ h.h (fun e => hY e.1)).trans h.c350⟩
theorem PS.below {w w' : World} {p c : Nat} {y : Value} (h : PS w p c y) (b : Below w.heap.size w w') : PS w' p c y :=
  ⟨Nat.lt_of_lt_of_le h.h b.size, (b.cell (p := ⟨p, 32, none⟩) h.h).trans h.c32, (b.cell (p := ⟨p, 104, none⟩) h.h).trans h.c104, (b.cell (p := ⟨p, 105, none⟩) h.h).trans h.c105, (b.cell (p := ⟨p, 106, none⟩) h.h).trans h.c106, (b.cell (p := ⟨p, 350, none⟩) h.h).trans h.c350⟩

/-- a pointer's block (a measure) -/
def blk : Value → Nat
  | .pointer (some a) => a.block
  | _ => 0

set_option maxRecDepth 100000 in
set_option maxHeartbeats 2000000 in
theorem find_any (p Y n cap j : Nat) (sc : Nat → Nat) (z : Nat → Int) (name : ByteArray) (lb : Nat → ByteArray) (cnt loc : Int) (w : World) (hp : PS w p (sc 0) (.slice (some ⟨Y, 0, none⟩) n cap)) (hch : Chain w Y n sc z name lb)
    (hj : Near z n j) (hn : n ≤ 4096) (hpY : p ≠ Y) (hc : w.cell? ⟨Y, 10 * j + 4, none⟩ = some (.int .u32 cnt)) (hf : w.frozen? ⟨Y, 10 * j + 4, none⟩ = false) (h0 : 0 ≤ cnt) (h1 : cnt ≤ 100) (B : Nat) (hB : B ≤ Y) :
    Calls Tryf.prog 17 #[.pointer (some ⟨p, 0, none⟩), .agg #[.int .i32 loc], .string name] w fun e w' =>
      e = .returned (.tuple #[.agg #[.int .u32 0, .int .u32 j], .bool (loopOf z j), .bool true]) ∧ Step B Y (10 * j + 4) w w' ∧ w'.cell? ⟨Y, 10 * j + 4, none⟩ = some (.int .u32 (cnt + 1)) := by
  have k104 := hp.c104
  have kp := hp.h
  have hp := Lib.hid hp
  have hch := Lib.hid hch
  have hj' := Lib.hid hj
  go_enter Tryf.func17, Tryf.ntmps17
  go_wp2
  go_loopw [7, 8, 9] (fun a b s wr => ∃ k : Nat, k ≤ j ∧ a = .bool false ∧ b = .bool false ∧ s = .pointer (some ⟨sc k, 0, none⟩) ∧ Below (w.heap.size + 2) ((w.alloc (.cells #[.int .i32 loc] 38)).alloc (.cells #[.int .u32 0, .int .u32 0] 34)) wr) (fun _ _ s _ => w.heap.size - blk s)
  case atStart => exact ⟨0, by omega, rfl, rfl, rfl, Below.refl _ _⟩
  case round =>
    obtain ⟨k, hkj, rfl, rfl, rfl, hbel⟩ := hrel
    have hb2 : Below w.heap.size w wr := (((Below.refl _ _).alloc (Nat.le_refl _) _).alloc (by simp) _).trans (hbel.mono (by omega))
    have hchr := hch.out.below hb2
    have hpr := hp.out.below hb2
    have hjn := hj.1
    have hkn : k < n := by omega
    have cK := hchr.kind k hkn
    have cS := hchr.src k hkn
    have cI := hchr.inn k hkn
    have cL := hchr.lp k hkn
    have cN := hchr.nm k hkn
    have c106 := hpr.c106
    have e1 : k * 10 + 1 = 10 * k + 1 := by omega
    by_cases hk : k = j
    · subst hk
      have hK : kindOf z n k = 2 := by unfold kindOf; rw [if_neg (by omega), if_pos hj.2.1.1]
      have hyes := hch.out.yes k hkn hj.2.1.2
      rw [hK] at cK
      rw [hyes] at cN
      clear hchr
      have hb2 := Lib.hid hb2
      have hbel := Lib.hid hbel
      have hpr := Lib.hid hpr
      go_wp2_with (first | (go_at_call 19; refine (stops_any _ _).mono ?_; rintro e w1 ⟨rfl, rfl⟩) | fail)
      go_quiet (fail)
      go_wp2_with fail
      have hbq : Below w1.heap.size w1 (w1.drewN nq) := below_drewN (Below.refl _ _) _
      have hsz : w.heap.size ≤ (w1.drewN nq).heap.size := hb2.out.size
      refine (use_any p (sc 0) Y n cap k cnt _ (hpr.out.below hbq) hkn hn (Nat.lt_of_lt_of_le hch.out.y hsz) hpY ((hbq.cell (p := ⟨Y, 10 * k + 4, none⟩) (Nat.lt_of_lt_of_le hch.out.y hb2.out.size)).trans ((hb2.out.cell (p := ⟨Y, 10 * k + 4, none⟩) hch.out.y).trans hc)) ((hbq.frozen (p := ⟨Y, 10 * k + 4, none⟩) (Nat.lt_of_lt_of_le hch.out.y hb2.out.size)).trans ((hb2.out.frozen (p := ⟨Y, 10 * k + 4, none⟩) hch.out.y).trans hf)) h0 h1 B hB).mono ?_
      rintro e w2 ⟨rfl, hst, hc2⟩
      have hs1 : w.heap.size + 2 ≤ w1.heap.size := by have := hbel.out.size; simpa using this
      have hYw := hch.out.y
      have hR0 : w1.cell? ⟨w.heap.size + 1, 0, none⟩ = some (.int .u32 0) := (hbel.out.cell (p := ⟨w.heap.size + 1, 0, none⟩) (Nat.lt_succ_self _)).trans (by simp)
      have hR1 : w1.cell? ⟨w.heap.size + 1, 1, none⟩ = some (.int .u32 0) := (hbel.out.cell (p := ⟨w.heap.size + 1, 1, none⟩) (Nat.lt_succ_self _)).trans (by simp)
      have hG0 : w1.frozen? ⟨w.heap.size + 1, 0, none⟩ = false := (hbel.out.frozen (p := ⟨w.heap.size + 1, 0, none⟩) (Nat.lt_succ_self _)).trans (by simp)
      have hG1 : w1.frozen? ⟨w.heap.size + 1, 1, none⟩ = false := (hbel.out.frozen (p := ⟨w.heap.size + 1, 1, none⟩) (Nat.lt_succ_self _)).trans (by simp)
      have hst1 : Step B Y (10 * k + 4) w1 w2 := (Step.of_below (by omega) hbq).trans hst
      have hkY := hch.out.ne k hkn
      have hkw : sc k < w1.heap.size := Nat.lt_of_lt_of_le (hch.out.lt k hkn) hb2.out.size
      have hkne : sc k ≠ w.heap.size + 1 := by have := hch.out.lt k hkn; omega
      have cS := (hst1.cell _ _ hkw (fun e => hkY e.1)).trans cS
      have cI := (hst1.cell _ _ hkw (fun e => hkY e.1)).trans cI
      have cL := (hst1.cell _ _ hkw (fun e => hkY e.1)).trans cL
      have hR0 := (hst1.cell (w.heap.size + 1) 0 (by omega) (fun e => by omega)).trans hR0
      have hR1 := (hst1.cell (w.heap.size + 1) 1 (by omega) (fun e => by omega)).trans hR1
      have hG0 := (hst1.frozen (w.heap.size + 1) 0 (by omega)).trans hG0
      have hG1 := (hst1.frozen (w.heap.size + 1) 1 (by omega)).trans hG1
      have hY2 : Y ≠ w.heap.size + 1 := by omega
      have hs2 : w.heap.size + 1 < w2.heap.size := by have := hst1.size; omega
      have hfin : Step B Y (10 * k + 4) w w2 := (Step.of_below (by omega) hb2.out).trans hst1
      have hBw : B ≤ w.heap.size + 1 := by omega
      clear hst hst1 hbq hsz hc hf c106 cK cN hj
      go_wp2
      refine bodyPost_ret (v := .tuple #[.agg #[.int .u32 0, .int .u32 k], .bool (loopOf z k), .bool true]) (by simp [results, Tryf.results17, go_sem, *]) rfl ⟨rfl, (hfin.high (by omega) hBw _).high (by omega) hBw _, ?_⟩
      go_simp
    · have hk' : k < j := by omega
      have hn2 := hj.2.2 k hk'
      have cP := hchr.par k (by omega)
      have hlt := hchr.mono k (by omega)
      have hltw := hch.out.lt k hkn
      have hkk : k + 1 ≠ n := by omega
      by_cases h1 : z k % 3 = 1
      · have hK : kindOf z n k = 2 := by unfold kindOf; rw [if_neg hkk, if_pos h1]
        have hno : ¬ (bits .and .u8 (z k) 4 != 0) = true := fun e => hn2.2 ⟨h1, e⟩
        have hne := hch.out.no k hkn hno
        rw [hK] at cK
        clear hchr hpr cS cL
        have hb2 := Lib.hid hb2
        have hbel := Lib.hid hbel
        go_wp2_with (first | (go_at_call 19; refine (stops_any _ _).mono ?_; rintro e w1 ⟨rfl, rfl⟩) | fail)
        go_quiet (fail)
        go_wp2
        go_roundw
        case rel => exact ⟨k + 1, by omega, rfl, rfl, rfl, below_drewN hbel.out _⟩
        case measure => simp [blk]; omega
      · have hK : kindOf z n k = 0 := by unfold kindOf; rw [if_neg hkk, if_neg h1, if_neg hn2.1]
        rw [hK] at cK
        clear hchr hpr cS cI cL cN c106
        have hb2 := Lib.hid hb2
        have hbel := Lib.hid hbel
        go_wp2_with (first | (go_at_call 19; refine (stops_any _ _).mono ?_; rintro e w1 ⟨rfl, rfl⟩) | fail)
        go_quiet (fail)
        go_wp2
        go_roundw
        case rel => exact ⟨k + 1, by omega, rfl, rfl, rfl, below_drewN hbel.out _⟩
        case measure => simp [blk]; omega
end Go.Proofs.YtlonnbcmfenkkaaFmt
