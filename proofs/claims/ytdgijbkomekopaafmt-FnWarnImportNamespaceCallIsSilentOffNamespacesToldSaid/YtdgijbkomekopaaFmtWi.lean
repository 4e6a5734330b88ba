import Derived.Test.YtdgijbkomekopaaFmtWh
namespace Go.Proofs.YtdgijbkomekopaaFmt
open Go.RowKit

set_option maxRecDepth 100000 in
theorem warned_any (p c : Nat) (a b k : Int) (w : World) (hp : p < w.heap.size) (hcs : c < w.heap.size) (hc : w.cell? ⟨p, 176, none⟩ = some (.map (some c))) (hm : w.heap[c]? = some (.map #[⟨kcc a b k, .bool true, 0⟩] 1)) :
    Calls Tryf.prog 11 #[.pointer (some ⟨p, 0, none⟩), .agg #[.int .u32 a, .int .u32 b], .int .u8 k] w fun e w' => e = .returned (.bool true) ∧ Below w.heap.size w w' := by
  have hp1 : p < w.heap.size + 1 := by omega
  have hl : ∀ n, (Instr.lookup 137 (.map (some c)) (kcc a b k) false).run Tryf.prog ((w.alloc (.cells #[.int .u32 a, .int .u32 b] 24)).drewN n) = .ok (.bool true) ((w.alloc (.cells #[.int .u32 a, .int .u32 b] 24)).drewN n) := by
    intro n
    exact look137f c a b k _ _ ((heap1 w _ c n hcs).trans hm)
  clear hm
  go_enter Tryf.func11, Tryf.ntmps11
  go_wp2
  go_quiet (fail)
  go_wp2
  go_ret
  exact ⟨rfl, below_drewN ((Below.refl _ _).alloc (Nat.le_refl _) _) _⟩

/-- a ref in a block of its own -/
structure RS (w : World) (r : Nat) (a b : Int) : Prop where
  h : r < w.heap.size
  c0 : w.cell? ⟨r, 0, none⟩ = some (.int .u32 a)
  c1 : w.cell? ⟨r, 1, none⟩ = some (.int .u32 b)
theorem RS.block {w w' : World} {r : Nat} {a b : Int} (h : RS w r a b) (hs : w.heap.size ≤ w'.heap.size) (hb : w'.heap[r]? = w.heap[r]?) : RS w' r a b :=
  ⟨Nat.lt_of_lt_of_le h.h hs, (World.cell?_of_block (w := w) (a := ⟨r, 0, none⟩) hb).trans h.c0, (World.cell?_of_block (w := w) (a := ⟨r, 1, none⟩) hb).trans h.c1⟩
theorem RS.below {w w' : World} {r : Nat} {a b : Int} (h : RS w r a b) (hb : Below w.heap.size w w') : RS w' r a b := h.block hb.size (hb.block r h.h)
theorem RS.new (w : World) (a b : Int) : RS (w.alloc (.cells #[.int .u32 a, .int .u32 b] 24)) w.heap.size a b := ⟨by simp, by simp, by simp⟩

/-- the wrapped call, wherever the pair has been told -/
theorem warn_told (p m c i x : Nat) (a b l k fm : Int) (w : World) (hp : PS w p m fm (.map (some c))) (hr : RS w i a b) (hcs : c < w.heap.size)
    (hmm : w.heap[m]? = some (.map #[⟨kref a b, .agg #[.map (some x), .int .u32 0], 0⟩] 1)) (hmc : w.heap[c]? = some (.map #[⟨kcc a b k, .bool true, 0⟩] 1)) :
    Calls Tryf.prog 9 #[.pointer (some ⟨p, 0, none⟩), .agg #[.iface 167 (.pointer (some ⟨i, 0, none⟩)), .int .i32 l], .int .u8 k] w fun e w' => e = .returned (.tuple #[]) ∧ Below w.heap.size w w' := by
  refine warn_wrap p 167 ⟨i, 0, none⟩ l k w fun o => ?_
  have hb : Below w.heap.size w (w.alloc o) := (Below.refl _ _).alloc (Nat.le_refl _) _
  have hp' := hp.below hb
  have hr' := hr.below hb
  have hsz : (w.alloc o).heap.size = w.heap.size + 1 := by simp
  by_cases h0 : fm = 0
  · subst h0
    refine (warn_preserve p _ _ k _ hp'.hp hp'.c36).mono fun e w' ⟨he, hb⟩ => ⟨he, ?_⟩
    rw [hsz] at hb
    exact hb
  · refine (warn_hit p m c i x a b l k fm _ hp'.hp hp'.hm (by rw [hsz]; omega) hr'.h hp'.c36 (by simpa using h0) hp'.c171 hp'.c176 hr'.c0 hr'.c1 ((hb.block m hp.hm).trans hmm) ((hb.block c hcs).trans hmc)).mono fun e w' ⟨he, hb⟩ => ⟨he, ?_⟩
    rw [hsz] at hb
    exact hb

set_option maxRecDepth 100000 in
set_option maxHeartbeats 1000000 in
theorem law_once (fm k a b : Int) (w : World) :
    Calls Tryf.prog 3 #[.int .u8 fm, .int .u8 k, .int .u32 a, .int .u32 b] w fun e w' => e = .returned (.bool true) ∧ Below w.heap.size w w' := by
  have hr0 := RS.new w a b
  have hbel0 : Below w.heap.size w (w.alloc (.cells #[.int .u32 a, .int .u32 b] 24)) := (Below.refl _ _).alloc (Nat.le_refl _) _
  have hs0 : (w.alloc (.cells #[.int .u32 a, .int .u32 b] 24)).heap.size = w.heap.size + 1 := by simp
  have H0 := Lib.hid (And.intro hr0 (And.intro hbel0 hs0))
  clear hr0 hbel0 hs0
  go_enter Tryf.func3, Tryf.ntmps3
  go_wp2_with fail
  refine (new_ps fm _).mono ?_
  rintro e w1 ⟨rfl, hb1, hp1, hm1⟩
  obtain ⟨hr0, hbel0, hs0⟩ := H0.out
  clear H0
  have hr1 := hr0.below hb1
  have hbel1 := hbel0.trans (hb1.mono (by rw [hs0]; omega))
  rw [hs0] at hp1 hm1
  clear hr0 hbel0 hb1
  have hs1 : w.heap.size + 2 < w1.heap.size := hp1.hp
  have c0 := hr1.c0
  have c1 := hr1.c1
  have H1 := Lib.hid (And.intro hr1 (And.intro hp1 (And.intro hm1 hbel1)))
  clear hr1 hp1 hm1 hbel1 hs0
  simp only [World.size_alloc]
  go_wp2_with fail
  obtain ⟨hr1, hp1, hm1, hbel1⟩ := H1.out
  refine (add_ps (w.heap.size + 1 + 1) (w.heap.size + 1) fm _ a b w1 hp1 hm1 (B := w.heap.size) (by omega) (by omega)).mono ?_
  rintro e w2 ⟨rfl, hb2, hp2, ⟨x, hx⟩, hk2⟩
  have hr2 := hr1.block hb2.size (hk2 w.heap.size (by omega) hr1.h)
  have hbel2 := hbel1.trans hb2
  clear H1 hr1 hp1 hm1 hbel1 hk2 hb2 c0 c1 hs1
  have hs1 : w.heap.size + 2 < w2.heap.size := hp2.hp
  have c0 := hr2.c0
  have c1 := hr2.c1
  have H1 := Lib.hid (And.intro hr2 (And.intro hp2 (And.intro hx hbel2)))
  clear hr2 hp2 hx hbel2
  go_wp2_with fail
  obtain ⟨hr2, hp2, hx, hbel2⟩ := H1.out
  refine (mark_ps (w.heap.size + 1 + 1) (w.heap.size + 1) fm a b k w2 hp2 (B := w.heap.size) (by omega) (by omega)).mono ?_
  rintro e w3 ⟨rfl, hb3, c, hcs, hp3, hmc, hk3⟩
  have hr3 := hr2.block hb3.size (hk3 w.heap.size (by omega) hr2.h)
  have hx3 := (hk3 (w.heap.size + 1) (by omega) hp2.hm).trans hx
  have hbel3 := hbel2.trans hb3
  clear H1 hr2 hp2 hx hbel2 hk3 hb3 c0 c1 hs1
  have hs1 : w.heap.size + 2 < w3.heap.size := hp3.hp
  have c0 := hr3.c0
  have c1 := hr3.c1
  have H1 := Lib.hid (And.intro hr3 (And.intro hp3 (And.intro hx3 (And.intro hbel3 (And.intro hcs hmc)))))
  clear hr3 hp3 hx3 hbel3 hcs hmc
  go_wp2_with fail
  obtain ⟨hr3, hp3, hx3, hbel3, hcs, hmc⟩ := H1.out
  refine (ns_true a b w3).mono ?_
  rintro e w4 ⟨i, rfl, hb4, hi, hi0, hi1⟩
  have hr4 := hr3.below hb4
  have hp4 := hp3.below hb4
  have hx4 := (hb4.block _ hp3.hm).trans hx3
  have hmc4 := (hb4.block _ hcs).trans hmc
  have hcs4 : c < w4.heap.size := Nat.lt_of_lt_of_le hcs hb4.size
  have hbel4 := hbel3.trans (hb4.mono (by omega))
  have hri : RS w4 i a b := ⟨hi, hi0, hi1⟩
  clear H1 hr3 hp3 hx3 hbel3 hcs hmc hb4 hi hi0 hi1 c0 c1 hs1
  have hs1 : w.heap.size + 2 < w4.heap.size := hp4.hp
  have c0 := hr4.c0
  have c1 := hr4.c1
  have H1 := Lib.hid (And.intro hr4 (And.intro hp4 (And.intro hx4 (And.intro hbel4 (And.intro hcs4 (And.intro hmc4 hri))))))
  clear hr4 hp4 hx4 hbel4 hcs4 hmc4 hri
  go_wp2_with fail
  obtain ⟨hr4, hp4, hx4, hbel4, hcs4, hmc4, hri⟩ := H1.out
  clear H1
  have hb5 : Below w4.heap.size w4 (w4.alloc (.cells #[.iface 167 (.pointer (some ⟨i, 0, none⟩)), .int .i32 0] 35)) := (Below.refl _ _).alloc (Nat.le_refl _) _
  have hz5 : (w4.alloc (.cells #[.iface 167 (.pointer (some ⟨i, 0, none⟩)), .int .i32 0] 35)).heap.size = w4.heap.size + 1 := by simp
  have ht0 : (w4.alloc (.cells #[.iface 167 (.pointer (some ⟨i, 0, none⟩)), .int .i32 0] 35)).cell? ⟨w4.heap.size, 0, none⟩ = some (.iface 167 (.pointer (some ⟨i, 0, none⟩))) := by simp
  have ht1 : (w4.alloc (.cells #[.iface 167 (.pointer (some ⟨i, 0, none⟩)), .int .i32 0] 35)).cell? ⟨w4.heap.size, 1, none⟩ = some (.int .i32 0) := by simp
  refine (warn_told (w.heap.size + 1 + 1) (w.heap.size + 1) c i x a b 0 k fm _ (hp4.below hb5) (hri.below hb5) (by rw [hz5]; omega) ((hb5.block _ hp4.hm).trans hx4) ((hb5.block _ hcs4).trans hmc4)).mono ?_
  rintro e w6 ⟨rfl, hb6⟩
  have hb46 := hb5.trans (hb6.mono (by rw [hz5]; omega))
  have hr6 := hr4.below hb46
  have hp6 := hp4.below hb46
  have hx6 := (hb46.block _ hp4.hm).trans hx4
  have hmc6 := (hb46.block _ hcs4).trans hmc4
  have hcs6 : c < w6.heap.size := Nat.lt_of_lt_of_le hcs4 hb46.size
  have hri6 := hri.below hb46
  have hbel6 := hbel4.trans (hb46.mono (by omega))
  have ht0 := (hb6.cell (p := ⟨w4.heap.size, 0, none⟩) (by rw [hz5]; exact Nat.lt_succ_self _)).trans ht0
  have ht1 := (hb6.cell (p := ⟨w4.heap.size, 1, none⟩) (by rw [hz5]; exact Nat.lt_succ_self _)).trans ht1
  clear hr4 hp4 hx4 hbel4 hcs4 hmc4 hri hb5 hb6 hb46 hz5 c0 c1 hs1
  have H1 := Lib.hid (And.intro hr6 (And.intro hp6 (And.intro hx6 (And.intro hbel6 (And.intro hcs6 (And.intro hmc6 hri6))))))
  clear hr6 hp6 hx6 hbel6 hcs6 hmc6 hri6
  go_wp2_with fail
  obtain ⟨hr6, hp6, hx6, hbel6, hcs6, hmc6, hri6⟩ := H1.out
  clear H1 ht0 ht1
  refine (warn_told (w.heap.size + 1 + 1) (w.heap.size + 1) c i x a b 0 k fm _ hp6 hri6 hcs6 hx6 hmc6).mono ?_
  rintro e w7 ⟨rfl, hb7⟩
  have hr7 := hr6.below hb7
  have hp7 := hp6.below hb7
  have hmc7 := (hb7.block _ hcs6).trans hmc6
  have hcs7 : c < w7.heap.size := Nat.lt_of_lt_of_le hcs6 hb7.size
  have hbel7 := hbel6.trans (hb7.mono (by have := hr6.h; omega))
  clear hr6 hp6 hx6 hbel6 hcs6 hmc6 hri6 hb7
  have c0 := hr7.c0
  have c1 := hr7.c1
  have H1 := Lib.hid (And.intro hr7 (And.intro hp7 (And.intro hbel7 (And.intro hcs7 hmc7))))
  clear hr7 hp7 hbel7 hcs7 hmc7
  go_wp2_with fail
  obtain ⟨hr7, hp7, hbel7, hcs7, hmc7⟩ := H1.out
  refine (count_any _ c _ _ hp7.c176 hmc7).mono ?_
  rintro e w' ⟨rfl, rfl⟩
  clear hr7 hp7 hbel7 hcs7 hmc7
  go_wp2_with fail
  obtain ⟨hr7, hp7, hbel7, hcs7, hmc7⟩ := H1.out
  refine (warned_any _ c a b k _ hp7.hp hcs7 hp7.c176 hmc7).mono ?_
  rintro e w' ⟨rfl, hb8⟩
  have hbel8 := hbel7.trans (hb8.mono (by have := hr7.h; omega))
  clear hr7 hp7 hbel7 hcs7 hmc7 H1 hb8 c0 c1
  have hbel8 := Lib.hid hbel8
  go_wp2
  go_ret
  exact ⟨rfl, hbel8.out⟩
end Go.Proofs.YtdgijbkomekopaaFmt
