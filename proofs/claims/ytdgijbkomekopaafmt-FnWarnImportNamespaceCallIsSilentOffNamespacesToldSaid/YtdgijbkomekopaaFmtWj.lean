import Derived.Test.YtdgijbkomekopaaFmtWi
import Derived.Laws.BitsAllLaws
namespace Go.Proofs.YtdgijbkomekopaaFmt
open Go.RowKit

theorem xor_ne (b : Int) (h0 : 0 ≤ b) (h1 : b ≤ 4294967295) : bits .xor .u32 b 1 ≠ b := by
  rw [u32_xor b 1 h0 (by omega) (by omega) (by omega)]
  intro e
  have e2 : b.toNat ^^^ 1 = b.toNat := by
    have : ((b.toNat ^^^ (1 : Int).toNat : Nat) : Int) = (b.toNat : Int) := by rw [e]; omega
    exact_mod_cast this
  have e3 : (b.toNat ^^^ 1).testBit 0 = b.toNat.testBit 0 := by rw [e2]
  rw [Nat.testBit_xor] at e3
  cases h : b.toNat.testBit 0 <;> rw [h] at e3 <;> simp at e3

/-- what is known of the map of namespace imports when no pair is told -/
def Off (w : World) (m : Nat) (a b fm : Int) : Prop := fm = 0 ∨ w.heap[m]? = some (.map #[] 0) ∨ ∃ c d v, w.heap[m]? = some (.map #[⟨kref c d, v, 0⟩] 1) ∧ ¬ (a = c ∧ b = d)
theorem Off.block {w w' : World} {m : Nat} {a b fm : Int} (h : Off w m a b fm) (hb : w'.heap[m]? = w.heap[m]?) : Off w' m a b fm := by
  unfold Off at *
  rw [hb]
  exact h

/-- the wrapped call on an identifier that is no namespace import, or at the format 'preserve' -/
theorem warn_off (p m i : Nat) (cc : Value) (a b l k fm : Int) (w : World) (hp : PS w p m fm cc) (hr : RS w i a b) (ho : Off w m a b fm) :
    Calls Tryf.prog 9 #[.pointer (some ⟨p, 0, none⟩), .agg #[.iface 167 (.pointer (some ⟨i, 0, none⟩)), .int .i32 l], .int .u8 k] w fun e w' => e = .returned (.tuple #[]) ∧ Below w.heap.size w w' := by
  refine warn_wrap p 167 ⟨i, 0, none⟩ l k w fun o => ?_
  have hb : Below w.heap.size w (w.alloc o) := (Below.refl _ _).alloc (Nat.le_refl _) _
  have hp' := hp.below hb
  have hr' := hr.below hb
  have hsz : (w.alloc o).heap.size = w.heap.size + 1 := by simp
  by_cases h0 : fm = 0
  · subst h0
    refine (warn_preserve p _ _ k _ hp'.hp hp'.c36).mono fun e w' ⟨he, hb⟩ => ⟨he, ?_⟩
    rw [hsz] at hb
    exact hb
  · have ho' : (w.alloc o).heap[m]? = some (.map #[] 0) ∨ ∃ c d v, (w.alloc o).heap[m]? = some (.map #[⟨kref c d, v, 0⟩] 1) ∧ ¬ (a = c ∧ b = d) := by
      rcases ho.block (hb.block m hp.hm) with h | h
      · exact absurd h h0
      · exact h
    refine (warn_miss p m i a b l k fm _ hp'.hp hp'.hm hr'.h hp'.c36 (by simpa using h0) hp'.c171 hr'.c0 hr'.c1 ho').mono fun e w' ⟨he, hb⟩ => ⟨he, ?_⟩
    rw [hsz] at hb
    exact hb

/-- the wrapped call on something else than an identifier -/
theorem warn_off_other (p m t : Nat) (q : Addr) (cc : Value) (l k fm : Int) (w : World) (hp : PS w p m fm cc) (ht : t ≠ 167) :
    Calls Tryf.prog 9 #[.pointer (some ⟨p, 0, none⟩), .agg #[.iface t (.pointer (some q)), .int .i32 l], .int .u8 k] w fun e w' => e = .returned (.tuple #[]) ∧ Below w.heap.size w w' := by
  refine warn_wrap p t q l k w fun o => ?_
  have hb : Below w.heap.size w (w.alloc o) := (Below.refl _ _).alloc (Nat.le_refl _) _
  have hp' := hp.below hb
  have hsz : (w.alloc o).heap.size = w.heap.size + 1 := by simp
  by_cases h0 : fm = 0
  · subst h0
    refine (warn_preserve p _ _ k _ hp'.hp hp'.c36).mono fun e w' ⟨he, hb⟩ => ⟨he, ?_⟩
    rw [hsz] at hb
    exact hb
  · refine (warn_other p t q l k fm _ hp'.hp hp'.c36 (by simpa using h0) ht).mono fun e w' ⟨he, hb⟩ => ⟨he, ?_⟩
    rw [hsz] at hb
    exact hb

set_option maxRecDepth 100000 in
set_option maxHeartbeats 1000000 in
theorem law_off_zrto (k a b : Int) (w : World) (hb0 : 0 ≤ b) (hb1 : b ≤ 4294967295) :
    Calls Tryf.prog 4 #[.int .u8 0, .int .u8 k, .int .u32 a, .int .u32 b, .bool true, .bool true, .bool true] w fun e w' => e = .returned (.bool true) ∧ Below w.heap.size w w' := by
  have hbel0 : Below w.heap.size w ((w.alloc (.cells #[.int .u32 a, .int .u32 b] 24)).alloc (.cells #[.int .u32 a, .int .u32 (bits .xor .u32 b 1)] 24)) := ((Below.refl _ _).alloc (Nat.le_refl _) _).alloc (by simp) _
  have hs0 : ((w.alloc (.cells #[.int .u32 a, .int .u32 b] 24)).alloc (.cells #[.int .u32 a, .int .u32 (bits .xor .u32 b 1)] 24)).heap.size = w.heap.size + 1 + 1 := by simp
  have hr0 : RS ((w.alloc (.cells #[.int .u32 a, .int .u32 b] 24)).alloc (.cells #[.int .u32 a, .int .u32 (bits .xor .u32 b 1)] 24)) w.heap.size a b := (RS.new w a b).below ((Below.refl _ _).alloc (Nat.le_refl _) _)
  have ht0 : RS ((w.alloc (.cells #[.int .u32 a, .int .u32 b] 24)).alloc (.cells #[.int .u32 a, .int .u32 (bits .xor .u32 b 1)] 24)) (w.heap.size + 1) a (bits .xor .u32 b 1) := by
    have := RS.new (w.alloc (.cells #[.int .u32 a, .int .u32 b] 24)) a (bits .xor .u32 b 1)
    rwa [World.size_alloc] at this
  have hne := xor_ne b hb0 hb1
  have H0 := Lib.hid (And.intro hr0 (And.intro ht0 (And.intro hbel0 (And.intro hs0 hne))))
  clear hr0 ht0 hbel0 hs0 hne
  go_enter Tryf.func4, Tryf.ntmps4
  go_wp2_with fail
  refine (new_ps 0 _).mono ?_
  rintro e w1 ⟨rfl, hb1, hp1, hm1⟩
  obtain ⟨hr0, ht0, hbel0, hs0, hne⟩ := H0.out
  clear H0
  have hr1 := hr0.below hb1
  have ht1 := ht0.below hb1
  have hbel1 := hbel0.trans (hb1.mono (by rw [hs0]; omega))
  rw [hs0] at hp1 hm1
  clear hr0 ht0 hbel0 hb1
  have hs1 : w.heap.size + 3 < w1.heap.size := hp1.hp
  have c0 := hr1.c0
  have c1 := hr1.c1
  have t0 := ht1.c0
  have t1 := ht1.c1
  have H1 := Lib.hid (And.intro hr1 (And.intro ht1 (And.intro hp1 (And.intro hm1 (And.intro hbel1 hne)))))
  clear hr1 ht1 hp1 hm1 hbel1 hs0 hne
  simp only [World.size_alloc]
  go_wp2_with fail
  obtain ⟨hr1, ht1, hp1, hm1, hbel1, hne⟩ := H1.out
  refine (add_ps (w.heap.size + 1 + 1 + 1) (w.heap.size + 1 + 1) 0 _ a b w1 hp1 hm1 (B := w.heap.size) (by omega) (by omega)).mono ?_
  rintro e w2 ⟨rfl, hb2, hp2, ⟨x, hx⟩, hk2⟩
  have ht2 := ht1.block hb2.size (hk2 (w.heap.size + 1) (by omega) ht1.h)
  have hbel2 := hbel1.trans hb2
  have hoff : Off w2 (w.heap.size + 1 + 1) a (bits .xor .u32 b 1) 0 := .inl rfl
  clear H1 hr1 ht1 hp1 hm1 hbel1 hk2 hb2 c0 c1 t0 t1 hs1
  have hs1 : w.heap.size + 3 < w2.heap.size := hp2.hp
  have t0 := ht2.c0
  have t1 := ht2.c1
  have H1 := Lib.hid (And.intro ht2 (And.intro hp2 (And.intro hoff hbel2)))
  clear ht2 hp2 hx hbel2 hoff
  go_wp2_with fail
  obtain ⟨ht2, hp2, hoff, hbel2⟩ := H1.out
  refine (ns_true a (bits .xor .u32 b 1) w2).mono ?_
  rintro e w4 ⟨i, rfl, hb4, hi, hi0, hi1⟩
  have hp4 := hp2.below hb4
  have hoff4 := hoff.block (hb4.block _ hp2.hm)
  have hbel4 := hbel2.trans (hb4.mono (by have := ht2.h; omega))
  have hri : RS w4 i a (bits .xor .u32 b 1) := ⟨hi, hi0, hi1⟩
  clear H1 ht2 hp2 hoff hbel2 hb4 hi hi0 hi1 t0 t1 hs1
  have H1 := Lib.hid (And.intro hp4 (And.intro hoff4 (And.intro hbel4 hri)))
  clear hp4 hoff4 hbel4 hri
  go_wp2_with fail
  obtain ⟨hp4, hoff4, hbel4, hri⟩ := H1.out
  refine (warn_off (w.heap.size + 1 + 1 + 1) (w.heap.size + 1 + 1) i _ a (bits .xor .u32 b 1) 0 k 0 w4 hp4 hri hoff4).mono ?_
  rintro e w6 ⟨rfl, hb6⟩
  have hp6 := hp4.below hb6
  have hbel6 := hbel4.trans (hb6.mono (by have := hp4.hp; omega))
  clear H1 hp4 hoff4 hbel4 hri hb6
  have H1 := Lib.hid (And.intro hp6 hbel6)
  clear hp6 hbel6
  go_wp2_with fail
  obtain ⟨hp6, hbel6⟩ := H1.out
  refine (isnil_any _ none _ hp6.c176).mono ?_
  rintro e w' ⟨rfl, rfl⟩
  clear hp6 hbel6
  go_wp2
  go_ret
  exact ⟨rfl, H1.out.2⟩

set_option maxRecDepth 100000 in
set_option maxHeartbeats 1000000 in
theorem law_off_zrt (k a b : Int) (w : World) (hb0 : 0 ≤ b) (hb1 : b ≤ 4294967295) :
    Calls Tryf.prog 4 #[.int .u8 0, .int .u8 k, .int .u32 a, .int .u32 b, .bool true, .bool true, .bool false] w fun e w' => e = .returned (.bool true) ∧ Below w.heap.size w w' := by
  have hbel0 : Below w.heap.size w ((w.alloc (.cells #[.int .u32 a, .int .u32 b] 24)).alloc (.cells #[.int .u32 a, .int .u32 b] 24)) := ((Below.refl _ _).alloc (Nat.le_refl _) _).alloc (by simp) _
  have hs0 : ((w.alloc (.cells #[.int .u32 a, .int .u32 b] 24)).alloc (.cells #[.int .u32 a, .int .u32 b] 24)).heap.size = w.heap.size + 1 + 1 := by simp
  have hr0 : RS ((w.alloc (.cells #[.int .u32 a, .int .u32 b] 24)).alloc (.cells #[.int .u32 a, .int .u32 b] 24)) w.heap.size a b := (RS.new w a b).below ((Below.refl _ _).alloc (Nat.le_refl _) _)
  have ht0 : RS ((w.alloc (.cells #[.int .u32 a, .int .u32 b] 24)).alloc (.cells #[.int .u32 a, .int .u32 b] 24)) (w.heap.size + 1) a b := by
    have := RS.new (w.alloc (.cells #[.int .u32 a, .int .u32 b] 24)) a b
    rwa [World.size_alloc] at this
  have hne := xor_ne b hb0 hb1
  have H0 := Lib.hid (And.intro hr0 (And.intro ht0 (And.intro hbel0 (And.intro hs0 hne))))
  clear hr0 ht0 hbel0 hs0 hne
  go_enter Tryf.func4, Tryf.ntmps4
  go_wp2_with fail
  refine (new_ps 0 _).mono ?_
  rintro e w1 ⟨rfl, hb1, hp1, hm1⟩
  obtain ⟨hr0, ht0, hbel0, hs0, hne⟩ := H0.out
  clear H0
  have hr1 := hr0.below hb1
  have ht1 := ht0.below hb1
  have hbel1 := hbel0.trans (hb1.mono (by rw [hs0]; omega))
  rw [hs0] at hp1 hm1
  clear hr0 ht0 hbel0 hb1
  have hs1 : w.heap.size + 3 < w1.heap.size := hp1.hp
  have c0 := hr1.c0
  have c1 := hr1.c1
  have t0 := ht1.c0
  have t1 := ht1.c1
  have H1 := Lib.hid (And.intro hr1 (And.intro ht1 (And.intro hp1 (And.intro hm1 (And.intro hbel1 hne)))))
  clear hr1 ht1 hp1 hm1 hbel1 hs0 hne
  simp only [World.size_alloc]
  go_wp2_with fail
  obtain ⟨hr1, ht1, hp1, hm1, hbel1, hne⟩ := H1.out
  refine (add_ps (w.heap.size + 1 + 1 + 1) (w.heap.size + 1 + 1) 0 _ a b w1 hp1 hm1 (B := w.heap.size) (by omega) (by omega)).mono ?_
  rintro e w2 ⟨rfl, hb2, hp2, ⟨x, hx⟩, hk2⟩
  have ht2 := ht1.block hb2.size (hk2 (w.heap.size + 1) (by omega) ht1.h)
  have hbel2 := hbel1.trans hb2
  have hoff : Off w2 (w.heap.size + 1 + 1) a b 0 := .inl rfl
  clear H1 hr1 ht1 hp1 hm1 hbel1 hk2 hb2 c0 c1 t0 t1 hs1
  have hs1 : w.heap.size + 3 < w2.heap.size := hp2.hp
  have t0 := ht2.c0
  have t1 := ht2.c1
  have H1 := Lib.hid (And.intro ht2 (And.intro hp2 (And.intro hoff hbel2)))
  clear ht2 hp2 hx hbel2 hoff
  go_wp2_with fail
  obtain ⟨ht2, hp2, hoff, hbel2⟩ := H1.out
  refine (ns_true a b w2).mono ?_
  rintro e w4 ⟨i, rfl, hb4, hi, hi0, hi1⟩
  have hp4 := hp2.below hb4
  have hoff4 := hoff.block (hb4.block _ hp2.hm)
  have hbel4 := hbel2.trans (hb4.mono (by have := ht2.h; omega))
  have hri : RS w4 i a b := ⟨hi, hi0, hi1⟩
  clear H1 ht2 hp2 hoff hbel2 hb4 hi hi0 hi1 t0 t1 hs1
  have H1 := Lib.hid (And.intro hp4 (And.intro hoff4 (And.intro hbel4 hri)))
  clear hp4 hoff4 hbel4 hri
  go_wp2_with fail
  obtain ⟨hp4, hoff4, hbel4, hri⟩ := H1.out
  refine (warn_off (w.heap.size + 1 + 1 + 1) (w.heap.size + 1 + 1) i _ a b 0 k 0 w4 hp4 hri hoff4).mono ?_
  rintro e w6 ⟨rfl, hb6⟩
  have hp6 := hp4.below hb6
  have hbel6 := hbel4.trans (hb6.mono (by have := hp4.hp; omega))
  clear H1 hp4 hoff4 hbel4 hri hb6
  have H1 := Lib.hid (And.intro hp6 hbel6)
  clear hp6 hbel6
  go_wp2_with fail
  obtain ⟨hp6, hbel6⟩ := H1.out
  refine (isnil_any _ none _ hp6.c176).mono ?_
  rintro e w' ⟨rfl, rfl⟩
  clear hp6 hbel6
  go_wp2
  go_ret
  exact ⟨rfl, H1.out.2⟩

set_option maxRecDepth 100000 in
set_option maxHeartbeats 1000000 in
theorem law_off_zro (k a b : Int) (w : World) (hb0 : 0 ≤ b) (hb1 : b ≤ 4294967295) :
    Calls Tryf.prog 4 #[.int .u8 0, .int .u8 k, .int .u32 a, .int .u32 b, .bool true, .bool false, .bool true] w fun e w' => e = .returned (.bool true) ∧ Below w.heap.size w w' := by
  have hbel0 : Below w.heap.size w ((w.alloc (.cells #[.int .u32 a, .int .u32 b] 24)).alloc (.cells #[.int .u32 a, .int .u32 (bits .xor .u32 b 1)] 24)) := ((Below.refl _ _).alloc (Nat.le_refl _) _).alloc (by simp) _
  have hs0 : ((w.alloc (.cells #[.int .u32 a, .int .u32 b] 24)).alloc (.cells #[.int .u32 a, .int .u32 (bits .xor .u32 b 1)] 24)).heap.size = w.heap.size + 1 + 1 := by simp
  have hr0 : RS ((w.alloc (.cells #[.int .u32 a, .int .u32 b] 24)).alloc (.cells #[.int .u32 a, .int .u32 (bits .xor .u32 b 1)] 24)) w.heap.size a b := (RS.new w a b).below ((Below.refl _ _).alloc (Nat.le_refl _) _)
  have ht0 : RS ((w.alloc (.cells #[.int .u32 a, .int .u32 b] 24)).alloc (.cells #[.int .u32 a, .int .u32 (bits .xor .u32 b 1)] 24)) (w.heap.size + 1) a (bits .xor .u32 b 1) := by
    have := RS.new (w.alloc (.cells #[.int .u32 a, .int .u32 b] 24)) a (bits .xor .u32 b 1)
    rwa [World.size_alloc] at this
  have hne := xor_ne b hb0 hb1
  have H0 := Lib.hid (And.intro hr0 (And.intro ht0 (And.intro hbel0 (And.intro hs0 hne))))
  clear hr0 ht0 hbel0 hs0 hne
  go_enter Tryf.func4, Tryf.ntmps4
  go_wp2_with fail
  refine (new_ps 0 _).mono ?_
  rintro e w1 ⟨rfl, hb1, hp1, hm1⟩
  obtain ⟨hr0, ht0, hbel0, hs0, hne⟩ := H0.out
  clear H0
  have hr1 := hr0.below hb1
  have ht1 := ht0.below hb1
  have hbel1 := hbel0.trans (hb1.mono (by rw [hs0]; omega))
  rw [hs0] at hp1 hm1
  clear hr0 ht0 hbel0 hb1
  have hs1 : w.heap.size + 3 < w1.heap.size := hp1.hp
  have c0 := hr1.c0
  have c1 := hr1.c1
  have t0 := ht1.c0
  have t1 := ht1.c1
  have H1 := Lib.hid (And.intro hr1 (And.intro ht1 (And.intro hp1 (And.intro hm1 (And.intro hbel1 hne)))))
  clear hr1 ht1 hp1 hm1 hbel1 hs0 hne
  simp only [World.size_alloc]
  go_wp2_with fail
  obtain ⟨hr1, ht1, hp1, hm1, hbel1, hne⟩ := H1.out
  refine (add_ps (w.heap.size + 1 + 1 + 1) (w.heap.size + 1 + 1) 0 _ a b w1 hp1 hm1 (B := w.heap.size) (by omega) (by omega)).mono ?_
  rintro e w2 ⟨rfl, hb2, hp2, ⟨x, hx⟩, hk2⟩
  have ht2 := ht1.block hb2.size (hk2 (w.heap.size + 1) (by omega) ht1.h)
  have hbel2 := hbel1.trans hb2
  have hoff : Off w2 (w.heap.size + 1 + 1) a (bits .xor .u32 b 1) 0 := .inl rfl
  clear H1 hr1 ht1 hp1 hm1 hbel1 hk2 hb2 c0 c1 t0 t1 hs1
  have hs1 : w.heap.size + 3 < w2.heap.size := hp2.hp
  have t0 := ht2.c0
  have t1 := ht2.c1
  have H1 := Lib.hid (And.intro ht2 (And.intro hp2 (And.intro hoff hbel2)))
  clear ht2 hp2 hx hbel2 hoff
  go_wp2_with fail
  obtain ⟨ht2, hp2, hoff, hbel2⟩ := H1.out
  refine (ns_false a (bits .xor .u32 b 1) w2).mono ?_
  rintro e w4 ⟨q, rfl, hb4⟩
  have hp4 := hp2.below hb4
  have hbel4 := hbel2.trans (hb4.mono (by have := ht2.h; omega))
  clear H1 ht2 hp2 hoff hbel2 hb4 t0 t1 hs1
  have H1 := Lib.hid (And.intro hp4 hbel4)
  clear hp4 hbel4
  go_wp2_with fail
  obtain ⟨hp4, hbel4⟩ := H1.out
  refine (warn_off_other (w.heap.size + 1 + 1 + 1) (w.heap.size + 1 + 1) 170 q _ 0 k 0 w4 hp4 (by decide)).mono ?_
  rintro e w6 ⟨rfl, hb6⟩
  have hp6 := hp4.below hb6
  have hbel6 := hbel4.trans (hb6.mono (by have := hp4.hp; omega))
  clear H1 hp4 hbel4 hb6
  have H1 := Lib.hid (And.intro hp6 hbel6)
  clear hp6 hbel6
  go_wp2_with fail
  obtain ⟨hp6, hbel6⟩ := H1.out
  refine (isnil_any _ none _ hp6.c176).mono ?_
  rintro e w' ⟨rfl, rfl⟩
  clear hp6 hbel6
  go_wp2
  go_ret
  exact ⟨rfl, H1.out.2⟩

set_option maxRecDepth 100000 in
set_option maxHeartbeats 1000000 in
theorem law_off_zr (k a b : Int) (w : World) (hb0 : 0 ≤ b) (hb1 : b ≤ 4294967295) :
    Calls Tryf.prog 4 #[.int .u8 0, .int .u8 k, .int .u32 a, .int .u32 b, .bool true, .bool false, .bool false] w fun e w' => e = .returned (.bool true) ∧ Below w.heap.size w w' := by
  have hbel0 : Below w.heap.size w ((w.alloc (.cells #[.int .u32 a, .int .u32 b] 24)).alloc (.cells #[.int .u32 a, .int .u32 b] 24)) := ((Below.refl _ _).alloc (Nat.le_refl _) _).alloc (by simp) _
  have hs0 : ((w.alloc (.cells #[.int .u32 a, .int .u32 b] 24)).alloc (.cells #[.int .u32 a, .int .u32 b] 24)).heap.size = w.heap.size + 1 + 1 := by simp
  have hr0 : RS ((w.alloc (.cells #[.int .u32 a, .int .u32 b] 24)).alloc (.cells #[.int .u32 a, .int .u32 b] 24)) w.heap.size a b := (RS.new w a b).below ((Below.refl _ _).alloc (Nat.le_refl _) _)
  have ht0 : RS ((w.alloc (.cells #[.int .u32 a, .int .u32 b] 24)).alloc (.cells #[.int .u32 a, .int .u32 b] 24)) (w.heap.size + 1) a b := by
    have := RS.new (w.alloc (.cells #[.int .u32 a, .int .u32 b] 24)) a b
    rwa [World.size_alloc] at this
  have hne := xor_ne b hb0 hb1
  have H0 := Lib.hid (And.intro hr0 (And.intro ht0 (And.intro hbel0 (And.intro hs0 hne))))
  clear hr0 ht0 hbel0 hs0 hne
  go_enter Tryf.func4, Tryf.ntmps4
  go_wp2_with fail
  refine (new_ps 0 _).mono ?_
  rintro e w1 ⟨rfl, hb1, hp1, hm1⟩
  obtain ⟨hr0, ht0, hbel0, hs0, hne⟩ := H0.out
  clear H0
  have hr1 := hr0.below hb1
  have ht1 := ht0.below hb1
  have hbel1 := hbel0.trans (hb1.mono (by rw [hs0]; omega))
  rw [hs0] at hp1 hm1
  clear hr0 ht0 hbel0 hb1
  have hs1 : w.heap.size + 3 < w1.heap.size := hp1.hp
  have c0 := hr1.c0
  have c1 := hr1.c1
  have t0 := ht1.c0
  have t1 := ht1.c1
  have H1 := Lib.hid (And.intro hr1 (And.intro ht1 (And.intro hp1 (And.intro hm1 (And.intro hbel1 hne)))))
  clear hr1 ht1 hp1 hm1 hbel1 hs0 hne
  simp only [World.size_alloc]
  go_wp2_with fail
  obtain ⟨hr1, ht1, hp1, hm1, hbel1, hne⟩ := H1.out
  refine (add_ps (w.heap.size + 1 + 1 + 1) (w.heap.size + 1 + 1) 0 _ a b w1 hp1 hm1 (B := w.heap.size) (by omega) (by omega)).mono ?_
  rintro e w2 ⟨rfl, hb2, hp2, ⟨x, hx⟩, hk2⟩
  have ht2 := ht1.block hb2.size (hk2 (w.heap.size + 1) (by omega) ht1.h)
  have hbel2 := hbel1.trans hb2
  have hoff : Off w2 (w.heap.size + 1 + 1) a b 0 := .inl rfl
  clear H1 hr1 ht1 hp1 hm1 hbel1 hk2 hb2 c0 c1 t0 t1 hs1
  have hs1 : w.heap.size + 3 < w2.heap.size := hp2.hp
  have t0 := ht2.c0
  have t1 := ht2.c1
  have H1 := Lib.hid (And.intro ht2 (And.intro hp2 (And.intro hoff hbel2)))
  clear ht2 hp2 hx hbel2 hoff
  go_wp2_with fail
  obtain ⟨ht2, hp2, hoff, hbel2⟩ := H1.out
  refine (ns_false a b w2).mono ?_
  rintro e w4 ⟨q, rfl, hb4⟩
  have hp4 := hp2.below hb4
  have hbel4 := hbel2.trans (hb4.mono (by have := ht2.h; omega))
  clear H1 ht2 hp2 hoff hbel2 hb4 t0 t1 hs1
  have H1 := Lib.hid (And.intro hp4 hbel4)
  clear hp4 hbel4
  go_wp2_with fail
  obtain ⟨hp4, hbel4⟩ := H1.out
  refine (warn_off_other (w.heap.size + 1 + 1 + 1) (w.heap.size + 1 + 1) 170 q _ 0 k 0 w4 hp4 (by decide)).mono ?_
  rintro e w6 ⟨rfl, hb6⟩
  have hp6 := hp4.below hb6
  have hbel6 := hbel4.trans (hb6.mono (by have := hp4.hp; omega))
  clear H1 hp4 hbel4 hb6
  have H1 := Lib.hid (And.intro hp6 hbel6)
  clear hp6 hbel6
  go_wp2_with fail
  obtain ⟨hp6, hbel6⟩ := H1.out
  refine (isnil_any _ none _ hp6.c176).mono ?_
  rintro e w' ⟨rfl, rfl⟩
  clear hp6 hbel6
  go_wp2
  go_ret
  exact ⟨rfl, H1.out.2⟩

set_option maxRecDepth 100000 in
set_option maxHeartbeats 1000000 in
theorem law_off_zto (k a b : Int) (w : World) (hb0 : 0 ≤ b) (hb1 : b ≤ 4294967295) :
    Calls Tryf.prog 4 #[.int .u8 0, .int .u8 k, .int .u32 a, .int .u32 b, .bool false, .bool true, .bool true] w fun e w' => e = .returned (.bool true) ∧ Below w.heap.size w w' := by
  have hbel0 : Below w.heap.size w ((w.alloc (.cells #[.int .u32 a, .int .u32 b] 24)).alloc (.cells #[.int .u32 a, .int .u32 (bits .xor .u32 b 1)] 24)) := ((Below.refl _ _).alloc (Nat.le_refl _) _).alloc (by simp) _
  have hs0 : ((w.alloc (.cells #[.int .u32 a, .int .u32 b] 24)).alloc (.cells #[.int .u32 a, .int .u32 (bits .xor .u32 b 1)] 24)).heap.size = w.heap.size + 1 + 1 := by simp
  have hr0 : RS ((w.alloc (.cells #[.int .u32 a, .int .u32 b] 24)).alloc (.cells #[.int .u32 a, .int .u32 (bits .xor .u32 b 1)] 24)) w.heap.size a b := (RS.new w a b).below ((Below.refl _ _).alloc (Nat.le_refl _) _)
  have ht0 : RS ((w.alloc (.cells #[.int .u32 a, .int .u32 b] 24)).alloc (.cells #[.int .u32 a, .int .u32 (bits .xor .u32 b 1)] 24)) (w.heap.size + 1) a (bits .xor .u32 b 1) := by
    have := RS.new (w.alloc (.cells #[.int .u32 a, .int .u32 b] 24)) a (bits .xor .u32 b 1)
    rwa [World.size_alloc] at this
  have hne := xor_ne b hb0 hb1
  have H0 := Lib.hid (And.intro hr0 (And.intro ht0 (And.intro hbel0 (And.intro hs0 hne))))
  clear hr0 ht0 hbel0 hs0 hne
  go_enter Tryf.func4, Tryf.ntmps4
  go_wp2_with fail
  refine (new_ps 0 _).mono ?_
  rintro e w1 ⟨rfl, hb1, hp1, hm1⟩
  obtain ⟨hr0, ht0, hbel0, hs0, hne⟩ := H0.out
  clear H0
  have hr1 := hr0.below hb1
  have ht1 := ht0.below hb1
  have hbel1 := hbel0.trans (hb1.mono (by rw [hs0]; omega))
  rw [hs0] at hp1 hm1
  clear hr0 ht0 hbel0 hb1
  have hs1 : w.heap.size + 3 < w1.heap.size := hp1.hp
  have c0 := hr1.c0
  have c1 := hr1.c1
  have t0 := ht1.c0
  have t1 := ht1.c1
  have H1 := Lib.hid (And.intro hr1 (And.intro ht1 (And.intro hp1 (And.intro hm1 (And.intro hbel1 hne)))))
  clear hr1 ht1 hp1 hm1 hbel1 hs0 hne
  simp only [World.size_alloc]
  obtain ⟨hr1, ht2, hp2, hm1, hbel2, hne⟩ := H1.out
  have hoff : Off w1 (w.heap.size + 1 + 1) a (bits .xor .u32 b 1) 0 := .inr (.inl hm1)
  clear H1 c0 c1 hr1 hm1 hne
  have H1 := Lib.hid (And.intro ht2 (And.intro hp2 (And.intro hoff hbel2)))
  clear ht2 hp2 hbel2 hoff
  go_wp2_with fail
  obtain ⟨ht2, hp2, hoff, hbel2⟩ := H1.out
  refine (ns_true a (bits .xor .u32 b 1) w1).mono ?_
  rintro e w4 ⟨i, rfl, hb4, hi, hi0, hi1⟩
  have hp4 := hp2.below hb4
  have hoff4 := hoff.block (hb4.block _ hp2.hm)
  have hbel4 := hbel2.trans (hb4.mono (by have := ht2.h; omega))
  have hri : RS w4 i a (bits .xor .u32 b 1) := ⟨hi, hi0, hi1⟩
  clear H1 ht2 hp2 hoff hbel2 hb4 hi hi0 hi1 t0 t1 hs1
  have H1 := Lib.hid (And.intro hp4 (And.intro hoff4 (And.intro hbel4 hri)))
  clear hp4 hoff4 hbel4 hri
  go_wp2_with fail
  obtain ⟨hp4, hoff4, hbel4, hri⟩ := H1.out
  refine (warn_off (w.heap.size + 1 + 1 + 1) (w.heap.size + 1 + 1) i _ a (bits .xor .u32 b 1) 0 k 0 w4 hp4 hri hoff4).mono ?_
  rintro e w6 ⟨rfl, hb6⟩
  have hp6 := hp4.below hb6
  have hbel6 := hbel4.trans (hb6.mono (by have := hp4.hp; omega))
  clear H1 hp4 hoff4 hbel4 hri hb6
  have H1 := Lib.hid (And.intro hp6 hbel6)
  clear hp6 hbel6
  go_wp2_with fail
  obtain ⟨hp6, hbel6⟩ := H1.out
  refine (isnil_any _ none _ hp6.c176).mono ?_
  rintro e w' ⟨rfl, rfl⟩
  clear hp6 hbel6
  go_wp2
  go_ret
  exact ⟨rfl, H1.out.2⟩

set_option maxRecDepth 100000 in
set_option maxHeartbeats 1000000 in
theorem law_off_zt (k a b : Int) (w : World) (hb0 : 0 ≤ b) (hb1 : b ≤ 4294967295) :
    Calls Tryf.prog 4 #[.int .u8 0, .int .u8 k, .int .u32 a, .int .u32 b, .bool false, .bool true, .bool false] w fun e w' => e = .returned (.bool true) ∧ Below w.heap.size w w' := by
  have hbel0 : Below w.heap.size w ((w.alloc (.cells #[.int .u32 a, .int .u32 b] 24)).alloc (.cells #[.int .u32 a, .int .u32 b] 24)) := ((Below.refl _ _).alloc (Nat.le_refl _) _).alloc (by simp) _
  have hs0 : ((w.alloc (.cells #[.int .u32 a, .int .u32 b] 24)).alloc (.cells #[.int .u32 a, .int .u32 b] 24)).heap.size = w.heap.size + 1 + 1 := by simp
  have hr0 : RS ((w.alloc (.cells #[.int .u32 a, .int .u32 b] 24)).alloc (.cells #[.int .u32 a, .int .u32 b] 24)) w.heap.size a b := (RS.new w a b).below ((Below.refl _ _).alloc (Nat.le_refl _) _)
  have ht0 : RS ((w.alloc (.cells #[.int .u32 a, .int .u32 b] 24)).alloc (.cells #[.int .u32 a, .int .u32 b] 24)) (w.heap.size + 1) a b := by
    have := RS.new (w.alloc (.cells #[.int .u32 a, .int .u32 b] 24)) a b
    rwa [World.size_alloc] at this
  have hne := xor_ne b hb0 hb1
  have H0 := Lib.hid (And.intro hr0 (And.intro ht0 (And.intro hbel0 (And.intro hs0 hne))))
  clear hr0 ht0 hbel0 hs0 hne
  go_enter Tryf.func4, Tryf.ntmps4
  go_wp2_with fail
  refine (new_ps 0 _).mono ?_
  rintro e w1 ⟨rfl, hb1, hp1, hm1⟩
  obtain ⟨hr0, ht0, hbel0, hs0, hne⟩ := H0.out
  clear H0
  have hr1 := hr0.below hb1
  have ht1 := ht0.below hb1
  have hbel1 := hbel0.trans (hb1.mono (by rw [hs0]; omega))
  rw [hs0] at hp1 hm1
  clear hr0 ht0 hbel0 hb1
  have hs1 : w.heap.size + 3 < w1.heap.size := hp1.hp
  have c0 := hr1.c0
  have c1 := hr1.c1
  have t0 := ht1.c0
  have t1 := ht1.c1
  have H1 := Lib.hid (And.intro hr1 (And.intro ht1 (And.intro hp1 (And.intro hm1 (And.intro hbel1 hne)))))
  clear hr1 ht1 hp1 hm1 hbel1 hs0 hne
  simp only [World.size_alloc]
  obtain ⟨hr1, ht2, hp2, hm1, hbel2, hne⟩ := H1.out
  have hoff : Off w1 (w.heap.size + 1 + 1) a b 0 := .inr (.inl hm1)
  clear H1 c0 c1 hr1 hm1 hne
  have H1 := Lib.hid (And.intro ht2 (And.intro hp2 (And.intro hoff hbel2)))
  clear ht2 hp2 hbel2 hoff
  go_wp2_with fail
  obtain ⟨ht2, hp2, hoff, hbel2⟩ := H1.out
  refine (ns_true a b w1).mono ?_
  rintro e w4 ⟨i, rfl, hb4, hi, hi0, hi1⟩
  have hp4 := hp2.below hb4
  have hoff4 := hoff.block (hb4.block _ hp2.hm)
  have hbel4 := hbel2.trans (hb4.mono (by have := ht2.h; omega))
  have hri : RS w4 i a b := ⟨hi, hi0, hi1⟩
  clear H1 ht2 hp2 hoff hbel2 hb4 hi hi0 hi1 t0 t1 hs1
  have H1 := Lib.hid (And.intro hp4 (And.intro hoff4 (And.intro hbel4 hri)))
  clear hp4 hoff4 hbel4 hri
  go_wp2_with fail
  obtain ⟨hp4, hoff4, hbel4, hri⟩ := H1.out
  refine (warn_off (w.heap.size + 1 + 1 + 1) (w.heap.size + 1 + 1) i _ a b 0 k 0 w4 hp4 hri hoff4).mono ?_
  rintro e w6 ⟨rfl, hb6⟩
  have hp6 := hp4.below hb6
  have hbel6 := hbel4.trans (hb6.mono (by have := hp4.hp; omega))
  clear H1 hp4 hoff4 hbel4 hri hb6
  have H1 := Lib.hid (And.intro hp6 hbel6)
  clear hp6 hbel6
  go_wp2_with fail
  obtain ⟨hp6, hbel6⟩ := H1.out
  refine (isnil_any _ none _ hp6.c176).mono ?_
  rintro e w' ⟨rfl, rfl⟩
  clear hp6 hbel6
  go_wp2
  go_ret
  exact ⟨rfl, H1.out.2⟩

set_option maxRecDepth 100000 in
set_option maxHeartbeats 1000000 in
theorem law_off_zo (k a b : Int) (w : World) (hb0 : 0 ≤ b) (hb1 : b ≤ 4294967295) :
    Calls Tryf.prog 4 #[.int .u8 0, .int .u8 k, .int .u32 a, .int .u32 b, .bool false, .bool false, .bool true] w fun e w' => e = .returned (.bool true) ∧ Below w.heap.size w w' := by
  have hbel0 : Below w.heap.size w ((w.alloc (.cells #[.int .u32 a, .int .u32 b] 24)).alloc (.cells #[.int .u32 a, .int .u32 (bits .xor .u32 b 1)] 24)) := ((Below.refl _ _).alloc (Nat.le_refl _) _).alloc (by simp) _
  have hs0 : ((w.alloc (.cells #[.int .u32 a, .int .u32 b] 24)).alloc (.cells #[.int .u32 a, .int .u32 (bits .xor .u32 b 1)] 24)).heap.size = w.heap.size + 1 + 1 := by simp
  have hr0 : RS ((w.alloc (.cells #[.int .u32 a, .int .u32 b] 24)).alloc (.cells #[.int .u32 a, .int .u32 (bits .xor .u32 b 1)] 24)) w.heap.size a b := (RS.new w a b).below ((Below.refl _ _).alloc (Nat.le_refl _) _)
  have ht0 : RS ((w.alloc (.cells #[.int .u32 a, .int .u32 b] 24)).alloc (.cells #[.int .u32 a, .int .u32 (bits .xor .u32 b 1)] 24)) (w.heap.size + 1) a (bits .xor .u32 b 1) := by
    have := RS.new (w.alloc (.cells #[.int .u32 a, .int .u32 b] 24)) a (bits .xor .u32 b 1)
    rwa [World.size_alloc] at this
  have hne := xor_ne b hb0 hb1
  have H0 := Lib.hid (And.intro hr0 (And.intro ht0 (And.intro hbel0 (And.intro hs0 hne))))
  clear hr0 ht0 hbel0 hs0 hne
  go_enter Tryf.func4, Tryf.ntmps4
  go_wp2_with fail
  refine (new_ps 0 _).mono ?_
  rintro e w1 ⟨rfl, hb1, hp1, hm1⟩
  obtain ⟨hr0, ht0, hbel0, hs0, hne⟩ := H0.out
  clear H0
  have hr1 := hr0.below hb1
  have ht1 := ht0.below hb1
  have hbel1 := hbel0.trans (hb1.mono (by rw [hs0]; omega))
  rw [hs0] at hp1 hm1
  clear hr0 ht0 hbel0 hb1
  have hs1 : w.heap.size + 3 < w1.heap.size := hp1.hp
  have c0 := hr1.c0
  have c1 := hr1.c1
  have t0 := ht1.c0
  have t1 := ht1.c1
  have H1 := Lib.hid (And.intro hr1 (And.intro ht1 (And.intro hp1 (And.intro hm1 (And.intro hbel1 hne)))))
  clear hr1 ht1 hp1 hm1 hbel1 hs0 hne
  simp only [World.size_alloc]
  obtain ⟨hr1, ht2, hp2, hm1, hbel2, hne⟩ := H1.out
  have hoff : Off w1 (w.heap.size + 1 + 1) a (bits .xor .u32 b 1) 0 := .inr (.inl hm1)
  clear H1 c0 c1 hr1 hm1 hne
  have H1 := Lib.hid (And.intro ht2 (And.intro hp2 (And.intro hoff hbel2)))
  clear ht2 hp2 hbel2 hoff
  go_wp2_with fail
  obtain ⟨ht2, hp2, hoff, hbel2⟩ := H1.out
  refine (ns_false a (bits .xor .u32 b 1) w1).mono ?_
  rintro e w4 ⟨q, rfl, hb4⟩
  have hp4 := hp2.below hb4
  have hbel4 := hbel2.trans (hb4.mono (by have := ht2.h; omega))
  clear H1 ht2 hp2 hoff hbel2 hb4 t0 t1 hs1
  have H1 := Lib.hid (And.intro hp4 hbel4)
  clear hp4 hbel4
  go_wp2_with fail
  obtain ⟨hp4, hbel4⟩ := H1.out
  refine (warn_off_other (w.heap.size + 1 + 1 + 1) (w.heap.size + 1 + 1) 170 q _ 0 k 0 w4 hp4 (by decide)).mono ?_
  rintro e w6 ⟨rfl, hb6⟩
  have hp6 := hp4.below hb6
  have hbel6 := hbel4.trans (hb6.mono (by have := hp4.hp; omega))
  clear H1 hp4 hbel4 hb6
  have H1 := Lib.hid (And.intro hp6 hbel6)
  clear hp6 hbel6
  go_wp2_with fail
  obtain ⟨hp6, hbel6⟩ := H1.out
  refine (isnil_any _ none _ hp6.c176).mono ?_
  rintro e w' ⟨rfl, rfl⟩
  clear hp6 hbel6
  go_wp2
  go_ret
  exact ⟨rfl, H1.out.2⟩

set_option maxRecDepth 100000 in
set_option maxHeartbeats 1000000 in
theorem law_off_z (k a b : Int) (w : World) (hb0 : 0 ≤ b) (hb1 : b ≤ 4294967295) :
    Calls Tryf.prog 4 #[.int .u8 0, .int .u8 k, .int .u32 a, .int .u32 b, .bool false, .bool false, .bool false] w fun e w' => e = .returned (.bool true) ∧ Below w.heap.size w w' := by
  have hbel0 : Below w.heap.size w ((w.alloc (.cells #[.int .u32 a, .int .u32 b] 24)).alloc (.cells #[.int .u32 a, .int .u32 b] 24)) := ((Below.refl _ _).alloc (Nat.le_refl _) _).alloc (by simp) _
  have hs0 : ((w.alloc (.cells #[.int .u32 a, .int .u32 b] 24)).alloc (.cells #[.int .u32 a, .int .u32 b] 24)).heap.size = w.heap.size + 1 + 1 := by simp
  have hr0 : RS ((w.alloc (.cells #[.int .u32 a, .int .u32 b] 24)).alloc (.cells #[.int .u32 a, .int .u32 b] 24)) w.heap.size a b := (RS.new w a b).below ((Below.refl _ _).alloc (Nat.le_refl _) _)
  have ht0 : RS ((w.alloc (.cells #[.int .u32 a, .int .u32 b] 24)).alloc (.cells #[.int .u32 a, .int .u32 b] 24)) (w.heap.size + 1) a b := by
    have := RS.new (w.alloc (.cells #[.int .u32 a, .int .u32 b] 24)) a b
    rwa [World.size_alloc] at this
  have hne := xor_ne b hb0 hb1
  have H0 := Lib.hid (And.intro hr0 (And.intro ht0 (And.intro hbel0 (And.intro hs0 hne))))
  clear hr0 ht0 hbel0 hs0 hne
  go_enter Tryf.func4, Tryf.ntmps4
  go_wp2_with fail
  refine (new_ps 0 _).mono ?_
  rintro e w1 ⟨rfl, hb1, hp1, hm1⟩
  obtain ⟨hr0, ht0, hbel0, hs0, hne⟩ := H0.out
  clear H0
  have hr1 := hr0.below hb1
  have ht1 := ht0.below hb1
  have hbel1 := hbel0.trans (hb1.mono (by rw [hs0]; omega))
  rw [hs0] at hp1 hm1
  clear hr0 ht0 hbel0 hb1
  have hs1 : w.heap.size + 3 < w1.heap.size := hp1.hp
  have c0 := hr1.c0
  have c1 := hr1.c1
  have t0 := ht1.c0
  have t1 := ht1.c1
  have H1 := Lib.hid (And.intro hr1 (And.intro ht1 (And.intro hp1 (And.intro hm1 (And.intro hbel1 hne)))))
  clear hr1 ht1 hp1 hm1 hbel1 hs0 hne
  simp only [World.size_alloc]
  obtain ⟨hr1, ht2, hp2, hm1, hbel2, hne⟩ := H1.out
  have hoff : Off w1 (w.heap.size + 1 + 1) a b 0 := .inr (.inl hm1)
  clear H1 c0 c1 hr1 hm1 hne
  have H1 := Lib.hid (And.intro ht2 (And.intro hp2 (And.intro hoff hbel2)))
  clear ht2 hp2 hbel2 hoff
  go_wp2_with fail
  obtain ⟨ht2, hp2, hoff, hbel2⟩ := H1.out
  refine (ns_false a b w1).mono ?_
  rintro e w4 ⟨q, rfl, hb4⟩
  have hp4 := hp2.below hb4
  have hbel4 := hbel2.trans (hb4.mono (by have := ht2.h; omega))
  clear H1 ht2 hp2 hoff hbel2 hb4 t0 t1 hs1
  have H1 := Lib.hid (And.intro hp4 hbel4)
  clear hp4 hbel4
  go_wp2_with fail
  obtain ⟨hp4, hbel4⟩ := H1.out
  refine (warn_off_other (w.heap.size + 1 + 1 + 1) (w.heap.size + 1 + 1) 170 q _ 0 k 0 w4 hp4 (by decide)).mono ?_
  rintro e w6 ⟨rfl, hb6⟩
  have hp6 := hp4.below hb6
  have hbel6 := hbel4.trans (hb6.mono (by have := hp4.hp; omega))
  clear H1 hp4 hbel4 hb6
  have H1 := Lib.hid (And.intro hp6 hbel6)
  clear hp6 hbel6
  go_wp2_with fail
  obtain ⟨hp6, hbel6⟩ := H1.out
  refine (isnil_any _ none _ hp6.c176).mono ?_
  rintro e w' ⟨rfl, rfl⟩
  clear hp6 hbel6
  go_wp2
  go_ret
  exact ⟨rfl, H1.out.2⟩

set_option maxRecDepth 100000 in
set_option maxHeartbeats 1000000 in
theorem law_off_nrto (fm k a b : Int) (w : World) (hb0 : 0 ≤ b) (hb1 : b ≤ 4294967295) (hfm : (fm == 0) = false) :
    Calls Tryf.prog 4 #[.int .u8 fm, .int .u8 k, .int .u32 a, .int .u32 b, .bool true, .bool true, .bool true] w fun e w' => e = .returned (.bool true) ∧ Below w.heap.size w w' := by
  have hbel0 : Below w.heap.size w ((w.alloc (.cells #[.int .u32 a, .int .u32 b] 24)).alloc (.cells #[.int .u32 a, .int .u32 (bits .xor .u32 b 1)] 24)) := ((Below.refl _ _).alloc (Nat.le_refl _) _).alloc (by simp) _
  have hs0 : ((w.alloc (.cells #[.int .u32 a, .int .u32 b] 24)).alloc (.cells #[.int .u32 a, .int .u32 (bits .xor .u32 b 1)] 24)).heap.size = w.heap.size + 1 + 1 := by simp
  have hr0 : RS ((w.alloc (.cells #[.int .u32 a, .int .u32 b] 24)).alloc (.cells #[.int .u32 a, .int .u32 (bits .xor .u32 b 1)] 24)) w.heap.size a b := (RS.new w a b).below ((Below.refl _ _).alloc (Nat.le_refl _) _)
  have ht0 : RS ((w.alloc (.cells #[.int .u32 a, .int .u32 b] 24)).alloc (.cells #[.int .u32 a, .int .u32 (bits .xor .u32 b 1)] 24)) (w.heap.size + 1) a (bits .xor .u32 b 1) := by
    have := RS.new (w.alloc (.cells #[.int .u32 a, .int .u32 b] 24)) a (bits .xor .u32 b 1)
    rwa [World.size_alloc] at this
  have hne := xor_ne b hb0 hb1
  have H0 := Lib.hid (And.intro hr0 (And.intro ht0 (And.intro hbel0 (And.intro hs0 hne))))
  clear hr0 ht0 hbel0 hs0 hne
  go_enter Tryf.func4, Tryf.ntmps4
  go_wp2_with fail
  refine (new_ps fm _).mono ?_
  rintro e w1 ⟨rfl, hb1, hp1, hm1⟩
  obtain ⟨hr0, ht0, hbel0, hs0, hne⟩ := H0.out
  clear H0
  have hr1 := hr0.below hb1
  have ht1 := ht0.below hb1
  have hbel1 := hbel0.trans (hb1.mono (by rw [hs0]; omega))
  rw [hs0] at hp1 hm1
  clear hr0 ht0 hbel0 hb1
  have hs1 : w.heap.size + 3 < w1.heap.size := hp1.hp
  have c0 := hr1.c0
  have c1 := hr1.c1
  have t0 := ht1.c0
  have t1 := ht1.c1
  have H1 := Lib.hid (And.intro hr1 (And.intro ht1 (And.intro hp1 (And.intro hm1 (And.intro hbel1 hne)))))
  clear hr1 ht1 hp1 hm1 hbel1 hs0 hne
  simp only [World.size_alloc]
  go_wp2_with fail
  obtain ⟨hr1, ht1, hp1, hm1, hbel1, hne⟩ := H1.out
  refine (add_ps (w.heap.size + 1 + 1 + 1) (w.heap.size + 1 + 1) fm _ a b w1 hp1 hm1 (B := w.heap.size) (by omega) (by omega)).mono ?_
  rintro e w2 ⟨rfl, hb2, hp2, ⟨x, hx⟩, hk2⟩
  have ht2 := ht1.block hb2.size (hk2 (w.heap.size + 1) (by omega) ht1.h)
  have hbel2 := hbel1.trans hb2
  have hoff : Off w2 (w.heap.size + 1 + 1) a (bits .xor .u32 b 1) fm := .inr (.inr ⟨_, _, _, hx, fun h => hne h.2⟩)
  clear H1 hr1 ht1 hp1 hm1 hbel1 hk2 hb2 c0 c1 t0 t1 hs1
  have hs1 : w.heap.size + 3 < w2.heap.size := hp2.hp
  have t0 := ht2.c0
  have t1 := ht2.c1
  have H1 := Lib.hid (And.intro ht2 (And.intro hp2 (And.intro hoff hbel2)))
  clear ht2 hp2 hx hbel2 hoff
  go_wp2_with fail
  obtain ⟨ht2, hp2, hoff, hbel2⟩ := H1.out
  refine (ns_true a (bits .xor .u32 b 1) w2).mono ?_
  rintro e w4 ⟨i, rfl, hb4, hi, hi0, hi1⟩
  have hp4 := hp2.below hb4
  have hoff4 := hoff.block (hb4.block _ hp2.hm)
  have hbel4 := hbel2.trans (hb4.mono (by have := ht2.h; omega))
  have hri : RS w4 i a (bits .xor .u32 b 1) := ⟨hi, hi0, hi1⟩
  clear H1 ht2 hp2 hoff hbel2 hb4 hi hi0 hi1 t0 t1 hs1
  have H1 := Lib.hid (And.intro hp4 (And.intro hoff4 (And.intro hbel4 hri)))
  clear hp4 hoff4 hbel4 hri
  go_wp2_with fail
  obtain ⟨hp4, hoff4, hbel4, hri⟩ := H1.out
  refine (warn_off (w.heap.size + 1 + 1 + 1) (w.heap.size + 1 + 1) i _ a (bits .xor .u32 b 1) 0 k fm w4 hp4 hri hoff4).mono ?_
  rintro e w6 ⟨rfl, hb6⟩
  have hp6 := hp4.below hb6
  have hbel6 := hbel4.trans (hb6.mono (by have := hp4.hp; omega))
  clear H1 hp4 hoff4 hbel4 hri hb6
  have H1 := Lib.hid (And.intro hp6 hbel6)
  clear hp6 hbel6
  go_wp2_with fail
  obtain ⟨hp6, hbel6⟩ := H1.out
  refine (isnil_any _ none _ hp6.c176).mono ?_
  rintro e w' ⟨rfl, rfl⟩
  clear hp6 hbel6
  go_wp2
  go_ret
  exact ⟨rfl, H1.out.2⟩

set_option maxRecDepth 100000 in
set_option maxHeartbeats 1000000 in
theorem law_off_nrt (fm k a b : Int) (w : World) (hb0 : 0 ≤ b) (hb1 : b ≤ 4294967295) (hfm : (fm == 0) = false) :
    Calls Tryf.prog 4 #[.int .u8 fm, .int .u8 k, .int .u32 a, .int .u32 b, .bool true, .bool true, .bool false] w fun e w' => e = .returned (.bool true) ∧ Below w.heap.size w w' := by
  go_enter Tryf.func4, Tryf.ntmps4
  go_wp2
  go_ret
  exact ⟨rfl, Below.refl _ _⟩

set_option maxRecDepth 100000 in
set_option maxHeartbeats 1000000 in
theorem law_off_nro (fm k a b : Int) (w : World) (hb0 : 0 ≤ b) (hb1 : b ≤ 4294967295) (hfm : (fm == 0) = false) :
    Calls Tryf.prog 4 #[.int .u8 fm, .int .u8 k, .int .u32 a, .int .u32 b, .bool true, .bool false, .bool true] w fun e w' => e = .returned (.bool true) ∧ Below w.heap.size w w' := by
  have hbel0 : Below w.heap.size w ((w.alloc (.cells #[.int .u32 a, .int .u32 b] 24)).alloc (.cells #[.int .u32 a, .int .u32 (bits .xor .u32 b 1)] 24)) := ((Below.refl _ _).alloc (Nat.le_refl _) _).alloc (by simp) _
  have hs0 : ((w.alloc (.cells #[.int .u32 a, .int .u32 b] 24)).alloc (.cells #[.int .u32 a, .int .u32 (bits .xor .u32 b 1)] 24)).heap.size = w.heap.size + 1 + 1 := by simp
  have hr0 : RS ((w.alloc (.cells #[.int .u32 a, .int .u32 b] 24)).alloc (.cells #[.int .u32 a, .int .u32 (bits .xor .u32 b 1)] 24)) w.heap.size a b := (RS.new w a b).below ((Below.refl _ _).alloc (Nat.le_refl _) _)
  have ht0 : RS ((w.alloc (.cells #[.int .u32 a, .int .u32 b] 24)).alloc (.cells #[.int .u32 a, .int .u32 (bits .xor .u32 b 1)] 24)) (w.heap.size + 1) a (bits .xor .u32 b 1) := by
    have := RS.new (w.alloc (.cells #[.int .u32 a, .int .u32 b] 24)) a (bits .xor .u32 b 1)
    rwa [World.size_alloc] at this
  have hne := xor_ne b hb0 hb1
  have H0 := Lib.hid (And.intro hr0 (And.intro ht0 (And.intro hbel0 (And.intro hs0 hne))))
  clear hr0 ht0 hbel0 hs0 hne
  go_enter Tryf.func4, Tryf.ntmps4
  go_wp2_with fail
  refine (new_ps fm _).mono ?_
  rintro e w1 ⟨rfl, hb1, hp1, hm1⟩
  obtain ⟨hr0, ht0, hbel0, hs0, hne⟩ := H0.out
  clear H0
  have hr1 := hr0.below hb1
  have ht1 := ht0.below hb1
  have hbel1 := hbel0.trans (hb1.mono (by rw [hs0]; omega))
  rw [hs0] at hp1 hm1
  clear hr0 ht0 hbel0 hb1
  have hs1 : w.heap.size + 3 < w1.heap.size := hp1.hp
  have c0 := hr1.c0
  have c1 := hr1.c1
  have t0 := ht1.c0
  have t1 := ht1.c1
  have H1 := Lib.hid (And.intro hr1 (And.intro ht1 (And.intro hp1 (And.intro hm1 (And.intro hbel1 hne)))))
  clear hr1 ht1 hp1 hm1 hbel1 hs0 hne
  simp only [World.size_alloc]
  go_wp2_with fail
  obtain ⟨hr1, ht1, hp1, hm1, hbel1, hne⟩ := H1.out
  refine (add_ps (w.heap.size + 1 + 1 + 1) (w.heap.size + 1 + 1) fm _ a b w1 hp1 hm1 (B := w.heap.size) (by omega) (by omega)).mono ?_
  rintro e w2 ⟨rfl, hb2, hp2, ⟨x, hx⟩, hk2⟩
  have ht2 := ht1.block hb2.size (hk2 (w.heap.size + 1) (by omega) ht1.h)
  have hbel2 := hbel1.trans hb2
  have hoff : Off w2 (w.heap.size + 1 + 1) a (bits .xor .u32 b 1) fm := .inr (.inr ⟨_, _, _, hx, fun h => hne h.2⟩)
  clear H1 hr1 ht1 hp1 hm1 hbel1 hk2 hb2 c0 c1 t0 t1 hs1
  have hs1 : w.heap.size + 3 < w2.heap.size := hp2.hp
  have t0 := ht2.c0
  have t1 := ht2.c1
  have H1 := Lib.hid (And.intro ht2 (And.intro hp2 (And.intro hoff hbel2)))
  clear ht2 hp2 hx hbel2 hoff
  go_wp2_with fail
  obtain ⟨ht2, hp2, hoff, hbel2⟩ := H1.out
  refine (ns_false a (bits .xor .u32 b 1) w2).mono ?_
  rintro e w4 ⟨q, rfl, hb4⟩
  have hp4 := hp2.below hb4
  have hbel4 := hbel2.trans (hb4.mono (by have := ht2.h; omega))
  clear H1 ht2 hp2 hoff hbel2 hb4 t0 t1 hs1
  have H1 := Lib.hid (And.intro hp4 hbel4)
  clear hp4 hbel4
  go_wp2_with fail
  obtain ⟨hp4, hbel4⟩ := H1.out
  refine (warn_off_other (w.heap.size + 1 + 1 + 1) (w.heap.size + 1 + 1) 170 q _ 0 k fm w4 hp4 (by decide)).mono ?_
  rintro e w6 ⟨rfl, hb6⟩
  have hp6 := hp4.below hb6
  have hbel6 := hbel4.trans (hb6.mono (by have := hp4.hp; omega))
  clear H1 hp4 hbel4 hb6
  have H1 := Lib.hid (And.intro hp6 hbel6)
  clear hp6 hbel6
  go_wp2_with fail
  obtain ⟨hp6, hbel6⟩ := H1.out
  refine (isnil_any _ none _ hp6.c176).mono ?_
  rintro e w' ⟨rfl, rfl⟩
  clear hp6 hbel6
  go_wp2
  go_ret
  exact ⟨rfl, H1.out.2⟩

set_option maxRecDepth 100000 in
set_option maxHeartbeats 1000000 in
theorem law_off_nr (fm k a b : Int) (w : World) (hb0 : 0 ≤ b) (hb1 : b ≤ 4294967295) (hfm : (fm == 0) = false) :
    Calls Tryf.prog 4 #[.int .u8 fm, .int .u8 k, .int .u32 a, .int .u32 b, .bool true, .bool false, .bool false] w fun e w' => e = .returned (.bool true) ∧ Below w.heap.size w w' := by
  have hbel0 : Below w.heap.size w ((w.alloc (.cells #[.int .u32 a, .int .u32 b] 24)).alloc (.cells #[.int .u32 a, .int .u32 b] 24)) := ((Below.refl _ _).alloc (Nat.le_refl _) _).alloc (by simp) _
  have hs0 : ((w.alloc (.cells #[.int .u32 a, .int .u32 b] 24)).alloc (.cells #[.int .u32 a, .int .u32 b] 24)).heap.size = w.heap.size + 1 + 1 := by simp
  have hr0 : RS ((w.alloc (.cells #[.int .u32 a, .int .u32 b] 24)).alloc (.cells #[.int .u32 a, .int .u32 b] 24)) w.heap.size a b := (RS.new w a b).below ((Below.refl _ _).alloc (Nat.le_refl _) _)
  have ht0 : RS ((w.alloc (.cells #[.int .u32 a, .int .u32 b] 24)).alloc (.cells #[.int .u32 a, .int .u32 b] 24)) (w.heap.size + 1) a b := by
    have := RS.new (w.alloc (.cells #[.int .u32 a, .int .u32 b] 24)) a b
    rwa [World.size_alloc] at this
  have hne := xor_ne b hb0 hb1
  have H0 := Lib.hid (And.intro hr0 (And.intro ht0 (And.intro hbel0 (And.intro hs0 hne))))
  clear hr0 ht0 hbel0 hs0 hne
  go_enter Tryf.func4, Tryf.ntmps4
  go_wp2_with fail
  refine (new_ps fm _).mono ?_
  rintro e w1 ⟨rfl, hb1, hp1, hm1⟩
  obtain ⟨hr0, ht0, hbel0, hs0, hne⟩ := H0.out
  clear H0
  have hr1 := hr0.below hb1
  have ht1 := ht0.below hb1
  have hbel1 := hbel0.trans (hb1.mono (by rw [hs0]; omega))
  rw [hs0] at hp1 hm1
  clear hr0 ht0 hbel0 hb1
  have hs1 : w.heap.size + 3 < w1.heap.size := hp1.hp
  have c0 := hr1.c0
  have c1 := hr1.c1
  have t0 := ht1.c0
  have t1 := ht1.c1
  have H1 := Lib.hid (And.intro hr1 (And.intro ht1 (And.intro hp1 (And.intro hm1 (And.intro hbel1 hne)))))
  clear hr1 ht1 hp1 hm1 hbel1 hs0 hne
  simp only [World.size_alloc]
  go_wp2_with fail
  obtain ⟨hr1, ht1, hp1, hm1, hbel1, hne⟩ := H1.out
  refine (add_ps (w.heap.size + 1 + 1 + 1) (w.heap.size + 1 + 1) fm _ a b w1 hp1 hm1 (B := w.heap.size) (by omega) (by omega)).mono ?_
  rintro e w2 ⟨rfl, hb2, hp2, ⟨x, hx⟩, hk2⟩
  have ht2 := ht1.block hb2.size (hk2 (w.heap.size + 1) (by omega) ht1.h)
  have hbel2 := hbel1.trans hb2
  have hoff : True := trivial
  clear H1 hr1 ht1 hp1 hm1 hbel1 hk2 hb2 c0 c1 t0 t1 hs1
  have hs1 : w.heap.size + 3 < w2.heap.size := hp2.hp
  have t0 := ht2.c0
  have t1 := ht2.c1
  have H1 := Lib.hid (And.intro ht2 (And.intro hp2 (And.intro hoff hbel2)))
  clear ht2 hp2 hx hbel2 hoff
  go_wp2_with fail
  obtain ⟨ht2, hp2, hoff, hbel2⟩ := H1.out
  refine (ns_false a b w2).mono ?_
  rintro e w4 ⟨q, rfl, hb4⟩
  have hp4 := hp2.below hb4
  have hbel4 := hbel2.trans (hb4.mono (by have := ht2.h; omega))
  clear H1 ht2 hp2 hoff hbel2 hb4 t0 t1 hs1
  have H1 := Lib.hid (And.intro hp4 hbel4)
  clear hp4 hbel4
  go_wp2_with fail
  obtain ⟨hp4, hbel4⟩ := H1.out
  refine (warn_off_other (w.heap.size + 1 + 1 + 1) (w.heap.size + 1 + 1) 170 q _ 0 k fm w4 hp4 (by decide)).mono ?_
  rintro e w6 ⟨rfl, hb6⟩
  have hp6 := hp4.below hb6
  have hbel6 := hbel4.trans (hb6.mono (by have := hp4.hp; omega))
  clear H1 hp4 hbel4 hb6
  have H1 := Lib.hid (And.intro hp6 hbel6)
  clear hp6 hbel6
  go_wp2_with fail
  obtain ⟨hp6, hbel6⟩ := H1.out
  refine (isnil_any _ none _ hp6.c176).mono ?_
  rintro e w' ⟨rfl, rfl⟩
  clear hp6 hbel6
  go_wp2
  go_ret
  exact ⟨rfl, H1.out.2⟩

set_option maxRecDepth 100000 in
set_option maxHeartbeats 1000000 in
theorem law_off_nto (fm k a b : Int) (w : World) (hb0 : 0 ≤ b) (hb1 : b ≤ 4294967295) (hfm : (fm == 0) = false) :
    Calls Tryf.prog 4 #[.int .u8 fm, .int .u8 k, .int .u32 a, .int .u32 b, .bool false, .bool true, .bool true] w fun e w' => e = .returned (.bool true) ∧ Below w.heap.size w w' := by
  have hbel0 : Below w.heap.size w ((w.alloc (.cells #[.int .u32 a, .int .u32 b] 24)).alloc (.cells #[.int .u32 a, .int .u32 (bits .xor .u32 b 1)] 24)) := ((Below.refl _ _).alloc (Nat.le_refl _) _).alloc (by simp) _
  have hs0 : ((w.alloc (.cells #[.int .u32 a, .int .u32 b] 24)).alloc (.cells #[.int .u32 a, .int .u32 (bits .xor .u32 b 1)] 24)).heap.size = w.heap.size + 1 + 1 := by simp
  have hr0 : RS ((w.alloc (.cells #[.int .u32 a, .int .u32 b] 24)).alloc (.cells #[.int .u32 a, .int .u32 (bits .xor .u32 b 1)] 24)) w.heap.size a b := (RS.new w a b).below ((Below.refl _ _).alloc (Nat.le_refl _) _)
  have ht0 : RS ((w.alloc (.cells #[.int .u32 a, .int .u32 b] 24)).alloc (.cells #[.int .u32 a, .int .u32 (bits .xor .u32 b 1)] 24)) (w.heap.size + 1) a (bits .xor .u32 b 1) := by
    have := RS.new (w.alloc (.cells #[.int .u32 a, .int .u32 b] 24)) a (bits .xor .u32 b 1)
    rwa [World.size_alloc] at this
  have hne := xor_ne b hb0 hb1
  have H0 := Lib.hid (And.intro hr0 (And.intro ht0 (And.intro hbel0 (And.intro hs0 hne))))
  clear hr0 ht0 hbel0 hs0 hne
  go_enter Tryf.func4, Tryf.ntmps4
  go_wp2_with fail
  refine (new_ps fm _).mono ?_
  rintro e w1 ⟨rfl, hb1, hp1, hm1⟩
  obtain ⟨hr0, ht0, hbel0, hs0, hne⟩ := H0.out
  clear H0
  have hr1 := hr0.below hb1
  have ht1 := ht0.below hb1
  have hbel1 := hbel0.trans (hb1.mono (by rw [hs0]; omega))
  rw [hs0] at hp1 hm1
  clear hr0 ht0 hbel0 hb1
  have hs1 : w.heap.size + 3 < w1.heap.size := hp1.hp
  have c0 := hr1.c0
  have c1 := hr1.c1
  have t0 := ht1.c0
  have t1 := ht1.c1
  have H1 := Lib.hid (And.intro hr1 (And.intro ht1 (And.intro hp1 (And.intro hm1 (And.intro hbel1 hne)))))
  clear hr1 ht1 hp1 hm1 hbel1 hs0 hne
  simp only [World.size_alloc]
  obtain ⟨hr1, ht2, hp2, hm1, hbel2, hne⟩ := H1.out
  have hoff : Off w1 (w.heap.size + 1 + 1) a (bits .xor .u32 b 1) fm := .inr (.inl hm1)
  clear H1 c0 c1 hr1 hm1 hne
  have H1 := Lib.hid (And.intro ht2 (And.intro hp2 (And.intro hoff hbel2)))
  clear ht2 hp2 hbel2 hoff
  go_wp2_with fail
  obtain ⟨ht2, hp2, hoff, hbel2⟩ := H1.out
  refine (ns_true a (bits .xor .u32 b 1) w1).mono ?_
  rintro e w4 ⟨i, rfl, hb4, hi, hi0, hi1⟩
  have hp4 := hp2.below hb4
  have hoff4 := hoff.block (hb4.block _ hp2.hm)
  have hbel4 := hbel2.trans (hb4.mono (by have := ht2.h; omega))
  have hri : RS w4 i a (bits .xor .u32 b 1) := ⟨hi, hi0, hi1⟩
  clear H1 ht2 hp2 hoff hbel2 hb4 hi hi0 hi1 t0 t1 hs1
  have H1 := Lib.hid (And.intro hp4 (And.intro hoff4 (And.intro hbel4 hri)))
  clear hp4 hoff4 hbel4 hri
  go_wp2_with fail
  obtain ⟨hp4, hoff4, hbel4, hri⟩ := H1.out
  refine (warn_off (w.heap.size + 1 + 1 + 1) (w.heap.size + 1 + 1) i _ a (bits .xor .u32 b 1) 0 k fm w4 hp4 hri hoff4).mono ?_
  rintro e w6 ⟨rfl, hb6⟩
  have hp6 := hp4.below hb6
  have hbel6 := hbel4.trans (hb6.mono (by have := hp4.hp; omega))
  clear H1 hp4 hoff4 hbel4 hri hb6
  have H1 := Lib.hid (And.intro hp6 hbel6)
  clear hp6 hbel6
  go_wp2_with fail
  obtain ⟨hp6, hbel6⟩ := H1.out
  refine (isnil_any _ none _ hp6.c176).mono ?_
  rintro e w' ⟨rfl, rfl⟩
  clear hp6 hbel6
  go_wp2
  go_ret
  exact ⟨rfl, H1.out.2⟩

set_option maxRecDepth 100000 in
set_option maxHeartbeats 1000000 in
theorem law_off_nt (fm k a b : Int) (w : World) (hb0 : 0 ≤ b) (hb1 : b ≤ 4294967295) (hfm : (fm == 0) = false) :
    Calls Tryf.prog 4 #[.int .u8 fm, .int .u8 k, .int .u32 a, .int .u32 b, .bool false, .bool true, .bool false] w fun e w' => e = .returned (.bool true) ∧ Below w.heap.size w w' := by
  have hbel0 : Below w.heap.size w ((w.alloc (.cells #[.int .u32 a, .int .u32 b] 24)).alloc (.cells #[.int .u32 a, .int .u32 b] 24)) := ((Below.refl _ _).alloc (Nat.le_refl _) _).alloc (by simp) _
  have hs0 : ((w.alloc (.cells #[.int .u32 a, .int .u32 b] 24)).alloc (.cells #[.int .u32 a, .int .u32 b] 24)).heap.size = w.heap.size + 1 + 1 := by simp
  have hr0 : RS ((w.alloc (.cells #[.int .u32 a, .int .u32 b] 24)).alloc (.cells #[.int .u32 a, .int .u32 b] 24)) w.heap.size a b := (RS.new w a b).below ((Below.refl _ _).alloc (Nat.le_refl _) _)
  have ht0 : RS ((w.alloc (.cells #[.int .u32 a, .int .u32 b] 24)).alloc (.cells #[.int .u32 a, .int .u32 b] 24)) (w.heap.size + 1) a b := by
    have := RS.new (w.alloc (.cells #[.int .u32 a, .int .u32 b] 24)) a b
    rwa [World.size_alloc] at this
  have hne := xor_ne b hb0 hb1
  have H0 := Lib.hid (And.intro hr0 (And.intro ht0 (And.intro hbel0 (And.intro hs0 hne))))
  clear hr0 ht0 hbel0 hs0 hne
  go_enter Tryf.func4, Tryf.ntmps4
  go_wp2_with fail
  refine (new_ps fm _).mono ?_
  rintro e w1 ⟨rfl, hb1, hp1, hm1⟩
  obtain ⟨hr0, ht0, hbel0, hs0, hne⟩ := H0.out
  clear H0
  have hr1 := hr0.below hb1
  have ht1 := ht0.below hb1
  have hbel1 := hbel0.trans (hb1.mono (by rw [hs0]; omega))
  rw [hs0] at hp1 hm1
  clear hr0 ht0 hbel0 hb1
  have hs1 : w.heap.size + 3 < w1.heap.size := hp1.hp
  have c0 := hr1.c0
  have c1 := hr1.c1
  have t0 := ht1.c0
  have t1 := ht1.c1
  have H1 := Lib.hid (And.intro hr1 (And.intro ht1 (And.intro hp1 (And.intro hm1 (And.intro hbel1 hne)))))
  clear hr1 ht1 hp1 hm1 hbel1 hs0 hne
  simp only [World.size_alloc]
  obtain ⟨hr1, ht2, hp2, hm1, hbel2, hne⟩ := H1.out
  have hoff : Off w1 (w.heap.size + 1 + 1) a b fm := .inr (.inl hm1)
  clear H1 c0 c1 hr1 hm1 hne
  have H1 := Lib.hid (And.intro ht2 (And.intro hp2 (And.intro hoff hbel2)))
  clear ht2 hp2 hbel2 hoff
  go_wp2_with fail
  obtain ⟨ht2, hp2, hoff, hbel2⟩ := H1.out
  refine (ns_true a b w1).mono ?_
  rintro e w4 ⟨i, rfl, hb4, hi, hi0, hi1⟩
  have hp4 := hp2.below hb4
  have hoff4 := hoff.block (hb4.block _ hp2.hm)
  have hbel4 := hbel2.trans (hb4.mono (by have := ht2.h; omega))
  have hri : RS w4 i a b := ⟨hi, hi0, hi1⟩
  clear H1 ht2 hp2 hoff hbel2 hb4 hi hi0 hi1 t0 t1 hs1
  have H1 := Lib.hid (And.intro hp4 (And.intro hoff4 (And.intro hbel4 hri)))
  clear hp4 hoff4 hbel4 hri
  go_wp2_with fail
  obtain ⟨hp4, hoff4, hbel4, hri⟩ := H1.out
  refine (warn_off (w.heap.size + 1 + 1 + 1) (w.heap.size + 1 + 1) i _ a b 0 k fm w4 hp4 hri hoff4).mono ?_
  rintro e w6 ⟨rfl, hb6⟩
  have hp6 := hp4.below hb6
  have hbel6 := hbel4.trans (hb6.mono (by have := hp4.hp; omega))
  clear H1 hp4 hoff4 hbel4 hri hb6
  have H1 := Lib.hid (And.intro hp6 hbel6)
  clear hp6 hbel6
  go_wp2_with fail
  obtain ⟨hp6, hbel6⟩ := H1.out
  refine (isnil_any _ none _ hp6.c176).mono ?_
  rintro e w' ⟨rfl, rfl⟩
  clear hp6 hbel6
  go_wp2
  go_ret
  exact ⟨rfl, H1.out.2⟩

set_option maxRecDepth 100000 in
set_option maxHeartbeats 1000000 in
theorem law_off_no (fm k a b : Int) (w : World) (hb0 : 0 ≤ b) (hb1 : b ≤ 4294967295) (hfm : (fm == 0) = false) :
    Calls Tryf.prog 4 #[.int .u8 fm, .int .u8 k, .int .u32 a, .int .u32 b, .bool false, .bool false, .bool true] w fun e w' => e = .returned (.bool true) ∧ Below w.heap.size w w' := by
  have hbel0 : Below w.heap.size w ((w.alloc (.cells #[.int .u32 a, .int .u32 b] 24)).alloc (.cells #[.int .u32 a, .int .u32 (bits .xor .u32 b 1)] 24)) := ((Below.refl _ _).alloc (Nat.le_refl _) _).alloc (by simp) _
  have hs0 : ((w.alloc (.cells #[.int .u32 a, .int .u32 b] 24)).alloc (.cells #[.int .u32 a, .int .u32 (bits .xor .u32 b 1)] 24)).heap.size = w.heap.size + 1 + 1 := by simp
  have hr0 : RS ((w.alloc (.cells #[.int .u32 a, .int .u32 b] 24)).alloc (.cells #[.int .u32 a, .int .u32 (bits .xor .u32 b 1)] 24)) w.heap.size a b := (RS.new w a b).below ((Below.refl _ _).alloc (Nat.le_refl _) _)
  have ht0 : RS ((w.alloc (.cells #[.int .u32 a, .int .u32 b] 24)).alloc (.cells #[.int .u32 a, .int .u32 (bits .xor .u32 b 1)] 24)) (w.heap.size + 1) a (bits .xor .u32 b 1) := by
    have := RS.new (w.alloc (.cells #[.int .u32 a, .int .u32 b] 24)) a (bits .xor .u32 b 1)
    rwa [World.size_alloc] at this
  have hne := xor_ne b hb0 hb1
  have H0 := Lib.hid (And.intro hr0 (And.intro ht0 (And.intro hbel0 (And.intro hs0 hne))))
  clear hr0 ht0 hbel0 hs0 hne
  go_enter Tryf.func4, Tryf.ntmps4
  go_wp2_with fail
  refine (new_ps fm _).mono ?_
  rintro e w1 ⟨rfl, hb1, hp1, hm1⟩
  obtain ⟨hr0, ht0, hbel0, hs0, hne⟩ := H0.out
  clear H0
  have hr1 := hr0.below hb1
  have ht1 := ht0.below hb1
  have hbel1 := hbel0.trans (hb1.mono (by rw [hs0]; omega))
  rw [hs0] at hp1 hm1
  clear hr0 ht0 hbel0 hb1
  have hs1 : w.heap.size + 3 < w1.heap.size := hp1.hp
  have c0 := hr1.c0
  have c1 := hr1.c1
  have t0 := ht1.c0
  have t1 := ht1.c1
  have H1 := Lib.hid (And.intro hr1 (And.intro ht1 (And.intro hp1 (And.intro hm1 (And.intro hbel1 hne)))))
  clear hr1 ht1 hp1 hm1 hbel1 hs0 hne
  simp only [World.size_alloc]
  obtain ⟨hr1, ht2, hp2, hm1, hbel2, hne⟩ := H1.out
  have hoff : Off w1 (w.heap.size + 1 + 1) a (bits .xor .u32 b 1) fm := .inr (.inl hm1)
  clear H1 c0 c1 hr1 hm1 hne
  have H1 := Lib.hid (And.intro ht2 (And.intro hp2 (And.intro hoff hbel2)))
  clear ht2 hp2 hbel2 hoff
  go_wp2_with fail
  obtain ⟨ht2, hp2, hoff, hbel2⟩ := H1.out
  refine (ns_false a (bits .xor .u32 b 1) w1).mono ?_
  rintro e w4 ⟨q, rfl, hb4⟩
  have hp4 := hp2.below hb4
  have hbel4 := hbel2.trans (hb4.mono (by have := ht2.h; omega))
  clear H1 ht2 hp2 hoff hbel2 hb4 t0 t1 hs1
  have H1 := Lib.hid (And.intro hp4 hbel4)
  clear hp4 hbel4
  go_wp2_with fail
  obtain ⟨hp4, hbel4⟩ := H1.out
  refine (warn_off_other (w.heap.size + 1 + 1 + 1) (w.heap.size + 1 + 1) 170 q _ 0 k fm w4 hp4 (by decide)).mono ?_
  rintro e w6 ⟨rfl, hb6⟩
  have hp6 := hp4.below hb6
  have hbel6 := hbel4.trans (hb6.mono (by have := hp4.hp; omega))
  clear H1 hp4 hbel4 hb6
  have H1 := Lib.hid (And.intro hp6 hbel6)
  clear hp6 hbel6
  go_wp2_with fail
  obtain ⟨hp6, hbel6⟩ := H1.out
  refine (isnil_any _ none _ hp6.c176).mono ?_
  rintro e w' ⟨rfl, rfl⟩
  clear hp6 hbel6
  go_wp2
  go_ret
  exact ⟨rfl, H1.out.2⟩

set_option maxRecDepth 100000 in
set_option maxHeartbeats 1000000 in
theorem law_off_n (fm k a b : Int) (w : World) (hb0 : 0 ≤ b) (hb1 : b ≤ 4294967295) (hfm : (fm == 0) = false) :
    Calls Tryf.prog 4 #[.int .u8 fm, .int .u8 k, .int .u32 a, .int .u32 b, .bool false, .bool false, .bool false] w fun e w' => e = .returned (.bool true) ∧ Below w.heap.size w w' := by
  have hbel0 : Below w.heap.size w ((w.alloc (.cells #[.int .u32 a, .int .u32 b] 24)).alloc (.cells #[.int .u32 a, .int .u32 b] 24)) := ((Below.refl _ _).alloc (Nat.le_refl _) _).alloc (by simp) _
  have hs0 : ((w.alloc (.cells #[.int .u32 a, .int .u32 b] 24)).alloc (.cells #[.int .u32 a, .int .u32 b] 24)).heap.size = w.heap.size + 1 + 1 := by simp
  have hr0 : RS ((w.alloc (.cells #[.int .u32 a, .int .u32 b] 24)).alloc (.cells #[.int .u32 a, .int .u32 b] 24)) w.heap.size a b := (RS.new w a b).below ((Below.refl _ _).alloc (Nat.le_refl _) _)
  have ht0 : RS ((w.alloc (.cells #[.int .u32 a, .int .u32 b] 24)).alloc (.cells #[.int .u32 a, .int .u32 b] 24)) (w.heap.size + 1) a b := by
    have := RS.new (w.alloc (.cells #[.int .u32 a, .int .u32 b] 24)) a b
    rwa [World.size_alloc] at this
  have hne := xor_ne b hb0 hb1
  have H0 := Lib.hid (And.intro hr0 (And.intro ht0 (And.intro hbel0 (And.intro hs0 hne))))
  clear hr0 ht0 hbel0 hs0 hne
  go_enter Tryf.func4, Tryf.ntmps4
  go_wp2_with fail
  refine (new_ps fm _).mono ?_
  rintro e w1 ⟨rfl, hb1, hp1, hm1⟩
  obtain ⟨hr0, ht0, hbel0, hs0, hne⟩ := H0.out
  clear H0
  have hr1 := hr0.below hb1
  have ht1 := ht0.below hb1
  have hbel1 := hbel0.trans (hb1.mono (by rw [hs0]; omega))
  rw [hs0] at hp1 hm1
  clear hr0 ht0 hbel0 hb1
  have hs1 : w.heap.size + 3 < w1.heap.size := hp1.hp
  have c0 := hr1.c0
  have c1 := hr1.c1
  have t0 := ht1.c0
  have t1 := ht1.c1
  have H1 := Lib.hid (And.intro hr1 (And.intro ht1 (And.intro hp1 (And.intro hm1 (And.intro hbel1 hne)))))
  clear hr1 ht1 hp1 hm1 hbel1 hs0 hne
  simp only [World.size_alloc]
  obtain ⟨hr1, ht2, hp2, hm1, hbel2, hne⟩ := H1.out
  have hoff : Off w1 (w.heap.size + 1 + 1) a b fm := .inr (.inl hm1)
  clear H1 c0 c1 hr1 hm1 hne
  have H1 := Lib.hid (And.intro ht2 (And.intro hp2 (And.intro hoff hbel2)))
  clear ht2 hp2 hbel2 hoff
  go_wp2_with fail
  obtain ⟨ht2, hp2, hoff, hbel2⟩ := H1.out
  refine (ns_false a b w1).mono ?_
  rintro e w4 ⟨q, rfl, hb4⟩
  have hp4 := hp2.below hb4
  have hbel4 := hbel2.trans (hb4.mono (by have := ht2.h; omega))
  clear H1 ht2 hp2 hoff hbel2 hb4 t0 t1 hs1
  have H1 := Lib.hid (And.intro hp4 hbel4)
  clear hp4 hbel4
  go_wp2_with fail
  obtain ⟨hp4, hbel4⟩ := H1.out
  refine (warn_off_other (w.heap.size + 1 + 1 + 1) (w.heap.size + 1 + 1) 170 q _ 0 k fm w4 hp4 (by decide)).mono ?_
  rintro e w6 ⟨rfl, hb6⟩
  have hp6 := hp4.below hb6
  have hbel6 := hbel4.trans (hb6.mono (by have := hp4.hp; omega))
  clear H1 hp4 hbel4 hb6
  have H1 := Lib.hid (And.intro hp6 hbel6)
  clear hp6 hbel6
  go_wp2_with fail
  obtain ⟨hp6, hbel6⟩ := H1.out
  refine (isnil_any _ none _ hp6.c176).mono ?_
  rintro e w' ⟨rfl, rfl⟩
  clear hp6 hbel6
  go_wp2
  go_ret
  exact ⟨rfl, H1.out.2⟩

theorem law_silent (fm k a b : Int) (reg tgt oth : Bool) (w : World) (hb0 : 0 ≤ b) (hb1 : b ≤ 4294967295) :
    Calls Tryf.prog 4 #[.int .u8 fm, .int .u8 k, .int .u32 a, .int .u32 b, .bool reg, .bool tgt, .bool oth] w fun e w' => e = .returned (.bool true) ∧ Below w.heap.size w w' := by
  by_cases h0 : fm = 0
  · subst h0
    cases reg <;> cases tgt <;> cases oth
    · exact law_off_z k a b w hb0 hb1
    · exact law_off_zo k a b w hb0 hb1
    · exact law_off_zt k a b w hb0 hb1
    · exact law_off_zto k a b w hb0 hb1
    · exact law_off_zr k a b w hb0 hb1
    · exact law_off_zro k a b w hb0 hb1
    · exact law_off_zrt k a b w hb0 hb1
    · exact law_off_zrto k a b w hb0 hb1
  · have hfm : (fm == 0) = false := by simpa using h0
    cases reg <;> cases tgt <;> cases oth
    · exact law_off_n fm k a b w hb0 hb1 hfm
    · exact law_off_no fm k a b w hb0 hb1 hfm
    · exact law_off_nt fm k a b w hb0 hb1 hfm
    · exact law_off_nto fm k a b w hb0 hb1 hfm
    · exact law_off_nr fm k a b w hb0 hb1 hfm
    · exact law_off_nro fm k a b w hb0 hb1 hfm
    · exact law_off_nrt fm k a b w hb0 hb1 hfm
    · exact law_off_nrto fm k a b w hb0 hb1 hfm
end Go.Proofs.YtdgijbkomekopaaFmt
