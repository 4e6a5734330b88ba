/-
  WALKS. zzBuildLabelChain: the scopes and their labels' symbols.
-/
import Derived.Test.YtlonnbcmfenkkaaFmtWe
import Derived.OwnWalk
namespace Go.Proofs.YtlonnbcmfenkkaaFmt
open Go.RowKit

theorem info31 : (Tryf.prog.info? 31).map (fun i => (i.zero, i.size, i.bytes)) = some (some (.pointer none), 1, 8) := by kernel_rfl
noncomputable def z48 : Value := ((Tryf.prog.info? 48).bind (·.zero)).getD default
theorem info48 : (Tryf.prog.info? 48).map (fun i => (i.zero, i.size, i.bytes)) = some (some z48, 10, 48) := by kernel_rfl

theorem noref_any (w : World) : Calls Tryf.prog 16 #[] w fun e w' => e = .returned (.agg #[.int .u32 4294967295, .int .u32 4294967295]) ∧ Below w.heap.size w w' := by
  go_enter Tryf.func16, Tryf.ntmps16
  go_wp2
  exact bodyPost_ret (v := .agg #[.int .u32 4294967295, .int .u32 4294967295]) (by simp [results, Tryf.results16, go_sem]) rfl ⟨rfl, by
    exact (Below.refl _ _).alloc (Nat.le_refl _) _⟩

noncomputable def lbl (z : Nat → Int) (name : ByteArray) (i : Nat) : ByteArray := if (bits .and .u8 (z i) 4 != 0) = true then name else name ++ ⟨#[35]⟩

/-- the symbol that a label of this name starts as -/
def sym (s : ByteArray) : List Value := [.pointer none, .string s, .int .u32 4294967295, .int .u32 4294967295, .int .u32 0, .int .u32 0, .int .u32 0, .int .u16 0, .int .u8 27, .int .u8 0]
noncomputable def syms (z : Nat → Int) (name : ByteArray) : Nat → List Value
  | 0 => []
  | k + 1 => syms z name k ++ sym (lbl z name k)
/-- the row of pointers to scopes -/
structure RowS (w : World) (S n : Nat) : Prop where
  some : ∀ i, i < n → ∃ v, w.cell? ⟨S, i, none⟩ = some v
  fz : ∀ i, w.frozen? ⟨S, i, none⟩ = false
theorem RowS.below {w w' : World} {S n B : Nat} (h : RowS w S n) (b : Below B w w') (hS : S < B) : RowS w' S n :=
  ⟨fun i hi => by obtain ⟨v, hv⟩ := h.some i hi; exact ⟨v, (b.cell (p := ⟨S, i, none⟩) hS).trans hv⟩, fun i => (b.frozen (p := ⟨S, i, none⟩) hS).trans (h.fz i)⟩
theorem own_block {w : World} {base e size S n c : Nat} {xs : List Value} (h : w.ownsRow base e size (.slice (some ⟨S, 0, none⟩) n c) n xs) :
    ∃ cur, w.heap[S]? = some (.cells cur e (0, 0)) ∧ cur.size = c * size := by
  rcases h.2 with ⟨h, _⟩ | ⟨g, cap, cur, h1, _, h2, _, _, h3, _⟩
  · cases h
  · cases h1
    exact ⟨cur, h2, h3⟩
theorem _root_.Go.World.ownsRow.lt_own {w : World} {base e size S n c : Nat} {xs : List Value} (h : w.ownsRow base e size (.slice (some ⟨S, 0, none⟩) n c) n xs) : S + 1 ≤ w.heap.size := by
  obtain ⟨cur, h1, _⟩ := own_block h
  exact (Array.getElem?_eq_some_iff.1 h1).1
theorem _root_.Go.World.ownsRow.lt_own' {w : World} {base e size S n c : Nat} {xs : List Value} (h : w.ownsRow base e size (.slice (some ⟨S, 0, none⟩) n c) n xs) : S < w.heap.size := h.lt_own
theorem _root_.Go.World.ownsRow.rowS {w : World} {base e S n : Nat} {xs : List Value} (h : w.ownsRow base e 1 (.slice (some ⟨S, 0, none⟩) n n) n xs) : RowS w S n := by
  obtain ⟨cur, h1, h2⟩ := own_block h
  exact ⟨fun i hi => ⟨cur[i]'(by omega), by simp [World.cell?, h1, Array.getElem?_eq_getElem (show i < cur.size by omega)]⟩, fun i => by simp [World.frozen?, h1]⟩
theorem grown_below {w w' : World} (h : w.grownBy w' none) : Below w.heap.size w w' := (Below.refl _ _).grown h (Nat.le_refl _) (by simp)

/-- the first k scopes: where each lies and what it says -/
structure Part (w : World) (S Y n k : Nat) (sc : Nat → Nat) (z : Nat → Int) : Prop where
  row : ∀ i, i < k → w.cell? ⟨S, i, none⟩ = some (.pointer (some ⟨sc i, 0, none⟩))
  lo : ∀ i, i < k → Y < sc i
  lt : ∀ i, i < k → sc i < w.heap.size
  mono : ∀ i, i + 1 < k → sc i < sc (i + 1)
  kind : ∀ i, i < k → w.cell? ⟨sc i, 15, none⟩ = some (.int .u8 (kindOf z n i))
  par : ∀ i, i < k → w.cell? ⟨sc i, 1, none⟩ = some (.pointer none)
  fz : ∀ i, i < k → w.frozen? ⟨sc i, 1, none⟩ = false
  src : ∀ i, i < k → w.cell? ⟨sc i, 8, none⟩ = some (.int .u32 0)
  inn : ∀ i, i < k → w.cell? ⟨sc i, 9, none⟩ = some (.int .u32 i)
  lp : ∀ i, i < k → w.cell? ⟨sc i, 10, none⟩ = some (.bool (loopOf z i))

theorem Part.zero (w : World) (S Y n : Nat) (sc : Nat → Nat) (z : Nat → Int) : Part w S Y n 0 sc z :=
  ⟨fun i hi => by omega, fun i hi => by omega, fun i hi => by omega, fun i hi => by omega, fun i hi => by omega, fun i hi => by omega, fun i hi => by omega, fun i hi => by omega, fun i hi => by omega, fun i hi => by omega⟩

theorem own_keep {w w' : World} {base e size Y n c : Nat} {xs : List Value} (h : w.ownsRow base e size (.slice (some ⟨Y, 0, none⟩) n c) n xs) (hk : w'.heap[Y]? = w.heap[Y]?) : w'.ownsRow base e size (.slice (some ⟨Y, 0, none⟩) n c) n xs := by
  refine ⟨h.1, ?_⟩
  rcases h.2 with ⟨h, _⟩ | ⟨g, cap, cur, h1, hb, h2, h3⟩
  · cases h
  · cases h1
    exact .inr ⟨Y, c, cur, rfl, hb, hk.trans h2, h3⟩

/-- a new scope's cells -/
abbrev scell (m k : Nat) (lp : Bool) (kind : Int) : Array Value := #[.pointer none, .pointer none, .slice none 0 0, .map (some m), .slice none 0 0, .slice none 0 0, .int .i32 0, .int .i32 0, .int .u32 0, .int .u32 k, .bool lp, .bool false, .bool false, .bool false, .int .u8 0, .int .u8 kind]
/-- the world when a round has made its scope -/
abbrev made (wr : World) (S k : Nat) (lp : Bool) (kind : Int) : World := ((wr.setCell ⟨S, k, none⟩ (.pointer (some ⟨wr.heap.size + 1, 0, none⟩))).alloc (.map #[] 0)).alloc (.cells (scell wr.heap.size k lp kind) 62)

theorem made_size (wr : World) (S k : Nat) (lp : Bool) (kind : Int) : (made wr S k lp kind).heap.size = wr.heap.size + 2 := by simp [World.setCell]
theorem made_old (wr : World) (S k : Nat) (lp : Bool) (kind : Int) {b : Nat} (hb : b < wr.heap.size) (hS : b ≠ S) : (made wr S k lp kind).heap[b]? = wr.heap[b]? :=
  (Below.heap_alloc _ _ _ (by simp [World.setCell]; omega)).trans ((Below.heap_alloc _ _ _ (by simp [World.setCell]; omega)).trans (Below.heap_setCell _ _ _ _ hS))
theorem alloc_last (u : World) (cs : Array Value) (t : TypeId) : (u.alloc (.cells cs t)).heap[u.heap.size]? = some (.cells cs t (0, 0)) := by
  show (u.heap.push _)[u.heap.size]? = _
  exact Array.getElem?_push_size
theorem made_new (wr : World) (S k : Nat) (lp : Bool) (kind : Int) : (made wr S k lp kind).heap[wr.heap.size + 1]? = some (.cells (scell wr.heap.size k lp kind) 62 (0, 0)) := by
  have h := alloc_last ((wr.setCell ⟨S, k, none⟩ (.pointer (some ⟨wr.heap.size + 1, 0, none⟩))).alloc (.map #[] 0)) (scell wr.heap.size k lp kind) 62
  have e : ((wr.setCell ⟨S, k, none⟩ (.pointer (some ⟨wr.heap.size + 1, 0, none⟩))).alloc (.map #[] 0)).heap.size = wr.heap.size + 1 := by simp [World.setCell]
  rw [e] at h
  exact h

/-- what a round leaves behind it -/
theorem Part.next {wr w5 : World} {S Y n k : Nat} {sc : Nat → Nat} {z : Nat → Int} {kind : Int} (hp : Part wr S Y n k sc z) (hr : RowS wr S n) (hS : S < Y) (hY : Y < wr.heap.size) (hk : k < n) (hK : kindOf z n k = kind)
    (h5 : ∀ b, b < wr.heap.size + 2 → b ≠ Y → w5.heap[b]? = (made wr S k (loopOf z k) kind).heap[b]?) (hs : wr.heap.size + 2 ≤ w5.heap.size) :
    Part w5 S Y n (k + 1) (fun i => if i = k then wr.heap.size + 1 else sc i) z ∧ RowS w5 S n := by
  have hold : ∀ b off, b < wr.heap.size → b ≠ S → b ≠ Y → w5.cell? ⟨b, off, none⟩ = wr.cell? ⟨b, off, none⟩ := fun b off hb h1 h2 =>
    World.cell?_of_block (w := wr) (a := ⟨b, off, none⟩) ((h5 b (by omega) h2).trans (made_old _ _ _ _ _ hb h1))
  have hfold : ∀ b off, b < wr.heap.size → b ≠ S → b ≠ Y → w5.frozen? ⟨b, off, none⟩ = wr.frozen? ⟨b, off, none⟩ := fun b off hb h1 h2 =>
    World.frozen?_of_block (w := wr) (a := ⟨b, off, none⟩) ((h5 b (by omega) h2).trans (made_old _ _ _ _ _ hb h1))
  have hnew : w5.heap[wr.heap.size + 1]? = some (.cells (scell wr.heap.size k (loopOf z k) kind) 62 (0, 0)) := (h5 _ (by omega) (by omega)).trans (made_new _ _ _ _ _)
  have hcn : ∀ off, w5.cell? ⟨wr.heap.size + 1, off, none⟩ = (scell wr.heap.size k (loopOf z k) kind)[off]? := fun off => by simp [World.cell?, hnew]
  have hSb : w5.heap[S]? = (wr.setCell ⟨S, k, none⟩ (.pointer (some ⟨wr.heap.size + 1, 0, none⟩))).heap[S]? :=
    (h5 S (by omega) (by omega)).trans ((Below.heap_alloc _ _ _ (by simp [World.setCell]; omega)).trans (Below.heap_alloc _ _ _ (by simp [World.setCell]; omega)))
  have hSc : ∀ off, w5.cell? ⟨S, off, none⟩ = (wr.setCell ⟨S, k, none⟩ (.pointer (some ⟨wr.heap.size + 1, 0, none⟩))).cell? ⟨S, off, none⟩ := fun off =>
    World.cell?_of_block (w := wr.setCell ⟨S, k, none⟩ _) (a := ⟨S, off, none⟩) hSb
  have hSf : ∀ off, w5.frozen? ⟨S, off, none⟩ = (wr.setCell ⟨S, k, none⟩ (.pointer (some ⟨wr.heap.size + 1, 0, none⟩))).frozen? ⟨S, off, none⟩ := fun off =>
    World.frozen?_of_block (w := wr.setCell ⟨S, k, none⟩ _) (a := ⟨S, off, none⟩) hSb
  obtain ⟨v, hv⟩ := hr.some k hk
  have hcase : ∀ {Q : Nat → Prop}, (∀ i, i < k → Q i) → Q k → ∀ i, i < k + 1 → Q i := fun h1 h2 i hi => by
    by_cases h : i = k
    · exact h ▸ h2
    · exact h1 i (by omega)
  have hne : ∀ i, i < k → (if i = k then wr.heap.size + 1 else sc i) = sc i := fun i hi => if_neg (by omega)
  have ho : ∀ i off, i < k → w5.cell? ⟨if i = k then wr.heap.size + 1 else sc i, off, none⟩ = wr.cell? ⟨sc i, off, none⟩ := fun i off hi => by
    rw [hne i hi]
    exact hold _ _ (hp.lt i hi) (by have := hp.lo i hi; omega) (by have := hp.lo i hi; omega)
  have hn : ∀ off, w5.cell? ⟨if k = k then wr.heap.size + 1 else sc k, off, none⟩ = (scell wr.heap.size k (loopOf z k) kind)[off]? := fun off => by rw [if_pos rfl]; exact hcn off
  refine ⟨⟨?_, ?_, ?_, ?_, ?_, ?_, ?_, ?_, ?_, ?_⟩, ⟨?_, ?_⟩⟩
  · refine hcase (fun i hi => ?_) ?_
    · rw [hne i hi, hSc]
      have hki : k ≠ i := by omega
      refine Eq.trans ?_ (hp.row i hi)
      go_simp
    · rw [if_pos rfl, hSc]
      exact World.cell?_setCell_same _ _ _ hv
  · refine hcase (fun i hi => ?_) ?_
    · show Y < if i = k then _ else _
      rw [hne i hi]; exact hp.lo i hi
    · show Y < if k = k then _ else _
      rw [if_pos rfl]; omega
  · refine hcase (fun i hi => ?_) ?_
    · show (if i = k then _ else _) < _
      rw [hne i hi]; have := hp.lt i hi; omega
    · show (if k = k then _ else _) < _
      rw [if_pos rfl]; omega
  · intro i hi
    show (if i = k then _ else _) < (if i + 1 = k then _ else _)
    rw [if_neg (by omega)]
    by_cases h : i + 1 = k
    · rw [if_pos h]; have := hp.lt i (by omega); omega
    · rw [if_neg h]; exact hp.mono i (by omega)
  · exact hcase (fun i hi => (ho i _ hi).trans (hp.kind i hi)) ((hn _).trans (by rw [hK]; rfl))
  · exact hcase (fun i hi => (ho i _ hi).trans (hp.par i hi)) ((hn _).trans rfl)
  · refine hcase (fun i hi => ?_) ?_
    · show w5.frozen? ⟨if i = k then _ else _, _, _⟩ = _
      rw [hne i hi]
      exact (hfold _ _ (hp.lt i hi) (by have := hp.lo i hi; omega) (by have := hp.lo i hi; omega)).trans (hp.fz i hi)
    · show w5.frozen? ⟨if k = k then _ else _, _, _⟩ = _
      rw [if_pos rfl]
      simp [World.frozen?, hnew]
  · exact hcase (fun i hi => (ho i _ hi).trans (hp.src i hi)) ((hn _).trans rfl)
  · exact hcase (fun i hi => (ho i _ hi).trans (hp.inn i hi)) ((hn _).trans rfl)
  · exact hcase (fun i hi => (ho i _ hi).trans (hp.lp i hi)) ((hn _).trans rfl)
  · intro i hi
    rw [hSc]
    exact cell?_setCell_some (hr.some i hi).choose_spec
  · intro i
    rw [hSf]
    refine Eq.trans ?_ (hr.fz i)
    go_simp

theorem cell_block {w : World} {b : Nat} {cs : Array Value} {t : TypeId} {fz : Nat × Nat} (h : w.heap[b]? = some (.cells cs t fz)) (j : Nat) : w.cell? ⟨b, j, none⟩ = cs[j]? := by simp [World.cell?, h]
/-- a symbol's cells in a new block -/
abbrev symc (t : ByteArray) : Array Value := #[.pointer none, .string t, .int .u32 4294967295, .int .u32 4294967295, .int .u32 0, .int .u32 0, .int .u32 0, .int .u16 0, .int .u8 27, .int .u8 0]
theorem sym_cells (w3 : World) (t : ByteArray) : ∀ j u, (sym t)[j]? = some u → (w3.alloc (.cells (symc t) 48)).cell? ((⟨w3.heap.size, 0, none⟩ : Addr).add j) = some u := by
  intro j u hu
  have h := alloc_last w3 (symc t) 48
  have e : ((⟨w3.heap.size, 0, none⟩ : Addr).add j) = ⟨w3.heap.size, j, none⟩ := by
    simp [Addr.add]
    try (intro h; omega)
  rw [e]
  have e2 : (w3.alloc (.cells (symc t) 48)).cell? ⟨w3.heap.size, j, none⟩ = (symc t)[j]? := cell_block h j
  rw [e2, ← hu]
  show (sym t).toArray[j]? = _
  simp
theorem sym_one (t : ByteArray) : ∀ u ∈ sym t, u.oneCell' = true := by
  intro u hu
  simp only [sym, List.mem_cons, List.mem_nil_iff, or_false] at hu
  rcases hu with rfl | rfl | rfl | rfl | rfl | rfl | rfl | rfl | rfl | rfl <;> rfl

theorem round_own {wr w3 : World} {S Y k n c base : Nat} {lp : Bool} {kind : Int} {xs : List Value} (hown : wr.ownsRow base 48 10 (.slice (some ⟨Y, 0, none⟩) k c) k xs) (hS : S < Y)
    (hb3 : Below (made wr S n lp kind).heap.size (made wr S n lp kind) w3) (o : Obj) : (w3.alloc o).ownsRow base 48 10 (.slice (some ⟨Y, 0, none⟩) k c) k xs := by
  have hY := hown.lt_own'
  have h3 := hb3.size
  rw [made_size] at h3
  exact own_keep hown ((Below.heap_alloc w3 _ _ (by omega)).trans ((hb3.block Y (by rw [made_size]; omega)).trans (made_old _ _ _ _ _ hY (by omega))))

theorem round_rel {w wr w3 w5 : World} {Y n k : Nat} {sc : Nat → Nat} {z : Nat → Int} {name t : ByteArray} {kind : Int} (hbel : Below w.heap.size w wr)
    (hown : wr.ownsRow (w.heap.size + 1) 48 10 (.slice (some ⟨Y, 0, none⟩) k n) k (syms z name k)) (hpart : Part wr w.heap.size Y n k sc z) (hrow : RowS wr w.heap.size n) (hS : w.heap.size < Y) (hk : k < n) (hK : kindOf z n k = kind) (ht : lbl z name k = t)
    (hb3 : Below (made wr w.heap.size k (loopOf z k) kind).heap.size (made wr w.heap.size k (loopOf z k) kind) w3) (o : Obj) (hg5 : (w3.alloc o).grownBy w5 (some Y))
    (hown5 : w5.ownsRow (w.heap.size + 1) 48 10 (.slice (some ⟨Y, 0, none⟩) (k + 1) n) (k + 1) (syms z name k ++ sym t)) :
    Below w.heap.size w w5 ∧ w5.ownsRow (w.heap.size + 1) 48 10 (.slice (some ⟨Y, 0, none⟩) (k + 1) n) (k + 1) (syms z name (k + 1)) ∧
      Part w5 w.heap.size Y n (k + 1) (fun i => if i = k then wr.heap.size + 1 else sc i) z ∧ RowS w5 w.heap.size n := by
  have hY := hown.lt_own'
  have h3 := hb3.size
  rw [made_size] at h3
  have h5s := hg5.size
  have h5s' : w3.heap.size + 1 ≤ w5.heap.size := by simpa using h5s
  have hm : Below w.heap.size wr (made wr w.heap.size k (loopOf z k) kind) :=
    ((((Below.refl _ _).setCell (p := ⟨w.heap.size, k, none⟩) (Nat.le_refl _) _).alloc (by simp [World.setCell]; omega) _).alloc (by simp [World.setCell]; omega) _)
  refine ⟨?_, by rw [show syms z name (k + 1) = syms z name k ++ sym t by rw [← ht]; rfl]; exact hown5, ?_⟩
  · have h35 : Below w.heap.size w3 w5 := ((Below.refl _ _).alloc (by omega) o).grown hg5 (by simp; omega) (fun k h => by cases h; omega)
    exact ((hbel.trans hm).trans (hb3.mono (by rw [made_size]; omega))).trans h35
  · exact Part.next hpart hrow hS hY hk hK (fun b hb hne => (hg5.block b (by simp; omega) (fun e => hne (Option.some.inj e))).trans ((Below.heap_alloc w3 o b (by omega)).trans (hb3.block b (by rw [made_size]; omega)))) (by omega)

theorem syms_at (z : Nat → Int) (name : ByteArray) : ∀ k i j, i < k → j < 10 → (syms z name k)[10 * i + j]? = (sym (lbl z name i))[j]?
  | 0, i, j, hi, _ => by omega
  | k + 1, i, j, hi, hj => by
    have hlen : ∀ k, (syms z name k).length = 10 * k := fun k => by
      induction k with
      | zero => rfl
      | succ k ih => simp [syms, ih, sym]; omega
    show (syms z name k ++ sym (lbl z name k))[10 * i + j]? = _
    by_cases h : i = k
    · subst h
      rw [List.getElem?_append_right (by rw [hlen]; omega), hlen]
      congr 1
      omega
    · rw [List.getElem?_append_left (by rw [hlen]; omega)]
      exact syms_at z name k i j (by omega) hj

theorem cell_other (w : World) {Y o b off : Nat} (hn : ¬ (b = Y ∧ off = o)) (v : Value) : (w.setCell ⟨Y, o, none⟩ v).cell? ⟨b, off, none⟩ = w.cell? ⟨b, off, none⟩ := by
  by_cases hb : b = Y
  · subst hb
    have ho : off ≠ o := fun h => hn ⟨rfl, h⟩
    have ho' : o ≠ off := fun h => ho h.symm
    go_simp
  · have hb' : Y ≠ b := fun h => hb h.symm
    go_simp

/-- the scopes with the first m parents laid -/
structure Half (w : World) (S Y n m : Nat) (sc : Nat → Nat) (z : Nat → Int) : Prop where
  row : ∀ i, i < n → w.cell? ⟨S, i, none⟩ = some (.pointer (some ⟨sc i, 0, none⟩))
  lo : ∀ i, i < n → Y < sc i
  lt : ∀ i, i < n → sc i < w.heap.size
  mono : ∀ i, i + 1 < n → sc i < sc (i + 1)
  kind : ∀ i, i < n → w.cell? ⟨sc i, 15, none⟩ = some (.int .u8 (kindOf z n i))
  par : ∀ i, i < n → w.cell? ⟨sc i, 1, none⟩ = some (if i < m then .pointer (some ⟨sc (i + 1), 0, none⟩) else .pointer none)
  fz : ∀ i, i < n → w.frozen? ⟨sc i, 1, none⟩ = false
  src : ∀ i, i < n → w.cell? ⟨sc i, 8, none⟩ = some (.int .u32 0)
  inn : ∀ i, i < n → w.cell? ⟨sc i, 9, none⟩ = some (.int .u32 i)
  lp : ∀ i, i < n → w.cell? ⟨sc i, 10, none⟩ = some (.bool (loopOf z i))
theorem Part.half {w : World} {S Y n : Nat} {sc : Nat → Nat} {z : Nat → Int} (h : Part w S Y n n sc z) : Half w S Y n 0 sc z :=
  ⟨h.row, h.lo, h.lt, h.mono, h.kind, fun i hi => (h.par i hi).trans (by simp), h.fz, h.src, h.inn, h.lp⟩
theorem mono_lt {n : Nat} {sc : Nat → Nat} (h : ∀ i, i + 1 < n → sc i < sc (i + 1)) : ∀ j i, i < j → j < n → sc i < sc j
  | 0, i, hi, _ => by omega
  | j + 1, i, hi, hj => by
    by_cases e : i = j
    · subst e; exact h i hj
    · exact Nat.lt_trans (mono_lt h j i (by omega) (by omega)) (h j hj)
theorem Half.next {w : World} {S Y n m : Nat} {sc : Nat → Nat} {z : Nat → Int} (h : Half w S Y n m sc z) (hS : S < Y) (hm : m + 1 < n) (d : Nat) :
    Half ((w.setCell ⟨sc m, 1, none⟩ (.pointer (some ⟨sc (m + 1), 0, none⟩))).drewN d) S Y n (m + 1) sc z := by
  have hc : ∀ b off, ¬ (b = sc m ∧ off = 1) → ((w.setCell ⟨sc m, 1, none⟩ (.pointer (some ⟨sc (m + 1), 0, none⟩))).drewN d).cell? ⟨b, off, none⟩ = w.cell? ⟨b, off, none⟩ := fun b off hn => by
    show (w.setCell ⟨sc m, 1, none⟩ (.pointer (some ⟨sc (m + 1), 0, none⟩))).cell? ⟨b, off, none⟩ = w.cell? ⟨b, off, none⟩
    exact cell_other w hn _
  have hf : ∀ b off, ((w.setCell ⟨sc m, 1, none⟩ (.pointer (some ⟨sc (m + 1), 0, none⟩))).drewN d).frozen? ⟨b, off, none⟩ = w.frozen? ⟨b, off, none⟩ := fun b off => by
    show (w.setCell ⟨sc m, 1, none⟩ (.pointer (some ⟨sc (m + 1), 0, none⟩))).frozen? ⟨b, off, none⟩ = w.frozen? ⟨b, off, none⟩
    go_simp
  have hSm : S ≠ sc m := by have := h.lo m (by omega); omega
  refine ⟨fun i hi => (hc _ _ (fun e => hSm e.1)).trans (h.row i hi), h.lo, fun i hi => ?_, h.mono, fun i hi => (hc _ _ (fun e => by omega)).trans (h.kind i hi), fun i hi => ?_, fun i hi => (hf _ _).trans (h.fz i hi),
    fun i hi => (hc _ _ (fun e => by omega)).trans (h.src i hi), fun i hi => (hc _ _ (fun e => by omega)).trans (h.inn i hi), fun i hi => (hc _ _ (fun e => by omega)).trans (h.lp i hi)⟩
  · have := h.lt i hi
    show sc i < (w.setCell _ _).heap.size
    simpa [World.setCell] using this
  · by_cases e : i = m
    · subst e
      rw [if_pos (by omega)]
      exact World.cell?_setCell_same _ _ _ (h.par i hi)
    · have hne : sc i ≠ sc m := by
        rcases Nat.lt_or_gt_of_ne e with h1 | h1
        · have := mono_lt h.mono m i h1 (by omega); omega
        · have := mono_lt h.mono i m h1 hi; omega
      rw [(hc _ _ (fun e => hne e.1)), h.par i hi]
      congr 1
      by_cases h1 : i < m
      · rw [if_pos h1, if_pos (by omega)]
      · rw [if_neg h1, if_neg (by omega)]

theorem chain_of {w : World} {S Y n m c base : Nat} {sc : Nat → Nat} {z : Nat → Int} {name : ByteArray} (h : Half w S Y n m sc z) (hm : m + 1 = n) (hown : w.ownsRow base 48 10 (.slice (some ⟨Y, 0, none⟩) n c) n (syms z name n)) :
    Chain w Y n sc z name (lbl z name) ∧ ∀ i, i < n → w.cell? ⟨Y, 10 * i + 4, none⟩ = some (.int .u32 0) ∧ w.frozen? ⟨Y, 10 * i + 4, none⟩ = false := by
  have hcell : ∀ i j, i < n → j < 10 → w.cell? ⟨Y, 10 * i + j, none⟩ = (sym (lbl z name i))[j]? := fun i j hi hj => by
    rw [← syms_at z name n i j hi hj]
    exact hown.cellAt _ (by omega)
  refine ⟨⟨hown.lt_own', h.lt, fun i hi => by have := h.lo i hi; omega, h.mono, h.kind, fun i hi => (h.par i (by omega)).trans (by rw [if_pos (by omega)]), h.src, h.inn, h.lp, fun i hi => hcell i 1 hi (by omega), fun i hi hb => ?_, fun i hi hb => ?_⟩, fun i hi => ⟨hcell i 4 hi (by omega), ?_⟩⟩
  · unfold lbl; rw [if_pos hb]
  · unfold lbl; rw [if_neg hb, ByteArray.toList_eq, ByteArray.toList_eq, beq_eq_false_iff_ne]
    intro e
    have := congrArg List.length e
    simp [ByteArray.data_append] at this
  · obtain ⟨cur, h1, _⟩ := own_block hown
    simp [World.frozen?, h1]

end Go.Proofs.YtlonnbcmfenkkaaFmt
