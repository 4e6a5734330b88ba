import Derived.Test.YtdgijbkomekopaaFmtWf
namespace Go.Proofs.YtdgijbkomekopaaFmt
open Go.RowKit

/-- the parser at block p: its format, its map of namespace imports (block m), its map of pairs told -/
structure PS (w : World) (p m : Nat) (fm : Int) (cc : Value) : Prop where
  hp : p < w.heap.size
  hm : m < w.heap.size
  ne : m ≠ p
  c36 : w.cell? ⟨p, 36, none⟩ = some (.int .u8 fm)
  c171 : w.cell? ⟨p, 171, none⟩ = some (.map (some m))
  c176 : w.cell? ⟨p, 176, none⟩ = some cc
  f176 : w.frozen? ⟨p, 176, none⟩ = false

theorem PS.block {w w' : World} {p m : Nat} {fm : Int} {cc : Value} (h : PS w p m fm cc) (hs : w.heap.size ≤ w'.heap.size) (hb : w'.heap[p]? = w.heap[p]?) : PS w' p m fm cc :=
  ⟨Nat.lt_of_lt_of_le h.hp hs, Nat.lt_of_lt_of_le h.hm hs, h.ne, (World.cell?_of_block (w := w) (a := ⟨p, 36, none⟩) hb).trans h.c36, (World.cell?_of_block (w := w) (a := ⟨p, 171, none⟩) hb).trans h.c171,
    (World.cell?_of_block (w := w) (a := ⟨p, 176, none⟩) hb).trans h.c176, (World.frozen?_of_block (w := w) (a := ⟨p, 176, none⟩) hb).trans h.f176⟩

theorem PS.below {w w' : World} {p m : Nat} {fm : Int} {cc : Value} (h : PS w p m fm cc) (b : Below w.heap.size w w') : PS w' p m fm cc := h.block b.size (b.block p h.hp)

theorem setObj_other (w : World) (m k : Nat) (o : Obj) (h : k ≠ m) : (setObj w m o).heap[k]? = w.heap[k]? := by
  simp only [setObj, Array.getElem?_setIfInBounds]
  rw [if_neg (fun e => h e.symm)]
theorem setObj_same (w : World) (m : Nat) (o : Obj) (h : m < w.heap.size) : (setObj w m o).heap[m]? = some o := by
  simp [setObj, h]
theorem setObj_size (w : World) (m : Nat) (o : Obj) : (setObj w m o).heap.size = w.heap.size := by simp [setObj]
theorem Below.setObj {B : Nat} {a w : World} (h : Below B a w) {m : Nat} (hm : B ≤ m) (o : Obj) : Below B a (setObj w m o) :=
  h.trans ⟨rfl, rfl, rfl, by rw [setObj_size]; exact Nat.le_refl _, fun k hk => setObj_other _ _ _ _ (by omega)⟩

theorem new_ps (fm : Int) (w : World) : Calls Tryf.prog 5 #[.int .u8 fm] w fun e w' => e = .returned (.pointer (some ⟨w.heap.size + 1, 0, none⟩)) ∧ Below w.heap.size w w' ∧ PS w' (w.heap.size + 1) w.heap.size fm (.map none) ∧
    w'.heap[w.heap.size]? = some (.map #[] 0) := by
  refine (new_any fm w).mono fun e w' ⟨he, hw⟩ => ?_
  subst hw
  have hh : ((w.alloc (.map #[] 0)).alloc (.cells ((pcells w.heap.size).setIfInBounds 36 (.int .u8 fm)) 161)).heap[w.heap.size + 1]? = some (.cells ((pcells w.heap.size).setIfInBounds 36 (.int .u8 fm)) 161) := by
    simpa using heap_alloc_new (w.alloc (.map #[] 0)) (.cells ((pcells w.heap.size).setIfInBounds 36 (.int .u8 fm)) 161)
  have hsz := pcells_size w.heap.size
  refine ⟨he, ((Below.refl _ _).alloc (Nat.le_refl _) _).alloc (by simp) _, ⟨by simp, by simp; omega, by omega, ?_, ?_, ?_, ?_⟩, ?_⟩
  · exact (cell_of_row _ _ _ _ _ _ hh).trans (by simp [hsz])
  · exact (cell_of_row _ _ _ _ _ _ hh).trans (by rw [Array.getElem?_setIfInBounds_ne (by omega)]; exact pcells_171 _)
  · exact (cell_of_row _ _ _ _ _ _ hh).trans (by rw [Array.getElem?_setIfInBounds_ne (by omega)]; exact pcells_176 _)
  · exact frozen_of_row _ _ _ _ _ hh
  · exact (Below.heap_alloc _ _ _ (by simp)).trans (heap_alloc_new _ _)

theorem add_ps (p m : Nat) (fm : Int) (cc : Value) (a b : Int) (w : World) (h : PS w p m fm cc) (hmm : w.heap[m]? = some (.map #[] 0)) {B : Nat} (hB : B ≤ m) (hBw : B ≤ w.heap.size) :
    Calls Tryf.prog 6 #[.pointer (some ⟨p, 0, none⟩), .agg #[.int .u32 a, .int .u32 b]] w fun e w' => e = .returned (.tuple #[]) ∧ Below B w w' ∧ PS w' p m fm cc ∧
      (∃ x, w'.heap[m]? = some (.map #[⟨kref a b, .agg #[.map (some x), .int .u32 0], 0⟩] 1)) ∧ ∀ k, k ≠ m → k < w.heap.size → w'.heap[k]? = w.heap[k]? := by
  refine (add_any p m a b w h.hp h.hm h.c171 hmm).mono fun e w' ⟨he, hw⟩ => ?_
  subst hw
  have hk : ∀ k, k ≠ m → k < w.heap.size → (setObj (((w.alloc (.cells #[.int .u32 a, .int .u32 b] 24)).alloc (.map #[] 0)).drew) m (.map #[⟨kref a b, .agg #[.map (some (w.heap.size + 1)), .int .u32 0], 0⟩] 1)).heap[k]? = w.heap[k]? :=
    fun k h1 h2 => (setObj_other _ _ _ _ h1).trans (heap2 w _ _ k h2)
  have hm' := h.hm
  refine ⟨he, Below.setObj ((((Below.refl _ _).alloc hBw _).alloc (by simp; omega) _).drew) hB _, h.block (by rw [setObj_size]; simp; omega) (hk p (fun e => h.ne e.symm) h.hp), ⟨_, setObj_same _ _ _ (by simp; omega)⟩, hk⟩

theorem mark_ps (p m : Nat) (fm : Int) (a b k : Int) (w : World) (h : PS w p m fm (.map none)) {B : Nat} (hB : B ≤ p) (hBw : B ≤ w.heap.size) :
    Calls Tryf.prog 7 #[.pointer (some ⟨p, 0, none⟩), .agg #[.int .u32 a, .int .u32 b], .int .u8 k] w fun e w' => e = .returned (.tuple #[]) ∧ Below B w w' ∧ ∃ c, c < w'.heap.size ∧ PS w' p m fm (.map (some c)) ∧
      w'.heap[c]? = some (.map #[⟨kcc a b k, .bool true, 0⟩] 1) ∧ ∀ k, k ≠ p → k < w.heap.size → w'.heap[k]? = w.heap[k]? := by
  refine (mark_any p a b k w h.hp h.c176 h.f176).mono fun e w' ⟨he, hw⟩ => ?_
  subst hw
  have hk : ∀ q, q ≠ p → q < w.heap.size → (((w.setCell ⟨p, 176, none⟩ (.map (some (w.heap.size + 1)))).alloc (.cells #[.int .u32 a, .int .u32 b] 24)).alloc (.map #[⟨kcc a b k, .bool true, 0⟩] 1)).heap[q]? = w.heap[q]? := by
    intro q h1 h2
    exact (Below.heap_alloc _ _ _ (by simp; omega)).trans ((Below.heap_alloc _ _ _ (by simpa using h2)).trans (Below.heap_setCell _ _ _ _ h1))
  have hm' := h.hm
  have hp' := h.hp
  have hcell : ∀ j, (((w.setCell ⟨p, 176, none⟩ (.map (some (w.heap.size + 1)))).alloc (.cells #[.int .u32 a, .int .u32 b] 24)).alloc (.map #[⟨kcc a b k, .bool true, 0⟩] 1)).cell? ⟨p, j, none⟩ = (w.setCell ⟨p, 176, none⟩ (.map (some (w.heap.size + 1)))).cell? ⟨p, j, none⟩ := by
    intro j
    rw [World.cell?_alloc_lt _ _ _ (by simp; omega), World.cell?_alloc_lt _ _ _ (by simp; omega)]
  refine ⟨he, ((((Below.refl _ _).setCell (p := ⟨p, 176, none⟩) hB _).alloc (by simpa using hBw) _).alloc (by simp; omega) _), w.heap.size + 1, by simp, ⟨by simp; omega, by simp; omega, h.ne, ?_, ?_, ?_, ?_⟩, ?_, hk⟩
  · rw [hcell, World.cell?_setCell_other _ _ _ _ (by simp)]; exact h.c36
  · rw [hcell, World.cell?_setCell_other _ _ _ _ (by simp)]; exact h.c171
  · rw [hcell]; exact World.cell?_setCell_same _ _ _ h.c176
  · have e1 := h.f176
    simp [hp', e1, go_sem]
  · simpa using heap_alloc_new ((w.setCell ⟨p, 176, none⟩ (.map (some (w.heap.size + 1)))).alloc (.cells #[.int .u32 a, .int .u32 b] 24)) (.map #[⟨kcc a b k, .bool true, 0⟩] 1)
end Go.Proofs.YtdgijbkomekopaaFmt
