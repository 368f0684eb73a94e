import Derived.Test.YbulkaqboGrow
namespace Go.Proofs.Ybulkaqbo
open Go.RowKit

def upd {α : Type} (f : Nat → α) (k : Nat) (v : α) : Nat → α := fun i => if i = k then v else f i
theorem upd_same {α : Type} (f : Nat → α) (k : Nat) (v : α) : upd f k v k = v := by simp [upd]
theorem upd_ne {α : Type} (f : Nat → α) (k : Nat) (v : α) {i : Nat} (h : i ≠ k) : upd f k v i = f i := by simp [upd, h]

/-- Numbers as cells. -/
def ints (zs : List Int) : List Value := zs.map (Value.int .i32)
theorem ints_append (xs ys : List Int) : ints (xs ++ ys) = ints xs ++ ints ys := by simp [ints]
theorem ints_length (xs : List Int) : (ints xs).length = xs.length := by simp [ints]

/-- The nine cells of a waitGraph whose last three fields are nil. -/
def grCells (A : Nat → Option Addr) (C : Nat → Nat) (Z : Nat → List Int) : Array Value :=
  #[.slice (A 0) (Z 0).length (C 0), .slice (A 1) (Z 1).length (C 1), .slice (A 2) (Z 2).length (C 2), .slice (A 3) (Z 3).length (C 3), .slice (A 4) (Z 4).length (C 4), .slice (A 5) (Z 5).length (C 5), .slice none 0 0, .slice none 0 0, .slice none 0 0]

/-- A waitGraph that the call itself has made lies at block gb: six rows of its own, no two of them one; all from block B on. -/
structure Gr (B : Nat) (w : World) (gb : Nat) (A : Nat → Option Addr) (C : Nat → Nat) (Z : Nat → List Int) : Prop where
  at_ : w.heap[gb]? = some (.cells (grCells A C Z) 69 (0, 0))
  own : ∀ i, i < 6 → Own w 21 1 (A i) (Z i).length (C i) (ints (Z i))
  apart : ∀ i j g, i < 6 → j < 6 → i ≠ j → blk (A i) = some g → blk (A j) ≠ some g
  low : B ≤ gb
  lows : ∀ i g, i < 6 → blk (A i) = some g → B ≤ g

section
variable {B : Nat} {w : World} {gb : Nat} {A : Nat → Option Addr} {C : Nat → Nat} {Z : Nat → List Int}

theorem Gr.cellAt (h : Gr B w gb A C Z) {i : Nat} {v : Value} (hv : (grCells A C Z)[i]? = some v) : w.cell? ⟨gb, i, none⟩ = some v := by
  simp [World.cell?, h.at_, hv]
theorem Gr.c0 (h : Gr B w gb A C Z) : w.cell? ⟨gb, 0, none⟩ = some (.slice (A 0) (Z 0).length (C 0)) := h.cellAt rfl
theorem Gr.c1 (h : Gr B w gb A C Z) : w.cell? ⟨gb, 1, none⟩ = some (.slice (A 1) (Z 1).length (C 1)) := h.cellAt rfl
theorem Gr.c2 (h : Gr B w gb A C Z) : w.cell? ⟨gb, 2, none⟩ = some (.slice (A 2) (Z 2).length (C 2)) := h.cellAt rfl
theorem Gr.c3 (h : Gr B w gb A C Z) : w.cell? ⟨gb, 3, none⟩ = some (.slice (A 3) (Z 3).length (C 3)) := h.cellAt rfl
theorem Gr.c4 (h : Gr B w gb A C Z) : w.cell? ⟨gb, 4, none⟩ = some (.slice (A 4) (Z 4).length (C 4)) := h.cellAt rfl
theorem Gr.c5 (h : Gr B w gb A C Z) : w.cell? ⟨gb, 5, none⟩ = some (.slice (A 5) (Z 5).length (C 5)) := h.cellAt rfl
theorem Gr.c6 (h : Gr B w gb A C Z) : w.cell? ⟨gb, 6, none⟩ = some (.slice none 0 0) := h.cellAt rfl
theorem Gr.free (h : Gr B w gb A C Z) (i : Nat) : w.frozen? ⟨gb, i, none⟩ = false := by simp [World.frozen?, h.at_]
theorem Gr.lt (h : Gr B w gb A C Z) : gb < w.heap.size := (Array.getElem?_eq_some_iff.1 h.at_).1

/-- A row is no graph. -/
theorem Gr.ne (h : Gr B w gb A C Z) {i : Nat} (hi : i < 6) : blk (A i) ≠ some gb := by
  intro e
  rcases (h.own i hi).shape with ⟨ha, _⟩ | ⟨g, cur, ha, hh, _⟩
  · rw [ha] at e; cases e
  · rw [ha] at e
    simp [blk] at e
    rw [e, h.at_] at hh
    simp at hh

/-- What turns none of its blocks keeps it. -/
theorem Gr.kept (h : Gr B w gb A C Z) {w' : World} {row : Option Nat} (hg : w.grownBy w' row) (hr : row ≠ some gb) (hrs : ∀ i g, i < 6 → blk (A i) = some g → row ≠ some g) : Gr B w' gb A C Z :=
  ⟨(hg.block gb h.lt (fun e => hr e.symm)).trans h.at_, fun i hi => (h.own i hi).kept hg (fun g hgb => hrs i g hi hgb), h.apart, h.low, h.lows⟩
theorem Gr.alloc (h : Gr B w gb A C Z) (o : Obj) : Gr B (w.alloc o) gb A C Z := h.kept (World.grownBy_alloc w o none) (by simp) (by simp)
theorem Gr.grown (h : Gr B w gb A C Z) {w' : World} (hg : w.grownBy w' none) : Gr B w' gb A C Z := h.kept hg (by simp) (by simp)

theorem grCells_upd (k : Nat) (hk : k < 6) (a' : Option Addr) (c' : Nat) (z' : List Int) : (grCells A C Z).setIfInBounds k (.slice a' z'.length c') = grCells (upd A k a') (upd C k c') (upd Z k z') := by
  match k, hk with
  | 0, _ => simp [grCells, upd]
  | 1, _ => simp [grCells, upd]
  | 2, _ => simp [grCells, upd]
  | 3, _ => simp [grCells, upd]
  | 4, _ => simp [grCells, upd]
  | 5, _ => simp [grCells, upd]

/-- A field appended to and stored back. -/
theorem Gr.append (h : Gr B w gb A C Z) {k : Nat} (hk : k < 6) {w1 : World} {g cap : Nat} {x : Int} (hB : B ≤ w.heap.size)
    (ho : Own w1 21 1 (some ⟨g, 0, none⟩) ((Z k).length + 1) cap (ints (Z k) ++ [.int .i32 x])) (hg : w.grownBy w1 (blk (A k))) (hw : A k = some ⟨g, 0, none⟩ ∨ w.heap.size ≤ g) :
    Gr B (w1.setCell ⟨gb, k, none⟩ (.slice (some ⟨g, 0, none⟩) ((Z k).length + 1) cap)) gb (upd A k (some ⟨g, 0, none⟩)) (upd C k cap) (upd Z k (Z k ++ [x])) := by
  have hat : w1.heap[gb]? = some (.cells (grCells A C Z) 69 (0, 0)) := (hg.block gb h.lt (fun e => h.ne hk e.symm)).trans h.at_
  have hgne : g ≠ gb := by
    intro e
    rcases hw with hw | hw
    · exact h.ne hk (by rw [hw, e]; rfl)
    · have := h.lt; omega
  have hlen : (Z k).length + 1 = (Z k ++ [x]).length := by simp
  have hs := grownBy_setCell w1 ⟨gb, k, none⟩ (.slice (some ⟨g, 0, none⟩) ((Z k).length + 1) cap)
  have hgnew : ∀ i g', i < 6 → i ≠ k → blk (A i) = some g' → g' ≠ g := by
    intro i g' hi hik hb e
    subst e
    rcases hw with hw | hw
    · exact h.apart i k g' hi hk hik hb (by rw [hw]; rfl)
    · have := (h.own i hi).lt g' hb; omega
  refine ⟨?_, ?_, ?_, h.low, ?_⟩
  · rw [heap_setCell_at _ _ _ _ _ _ hat, hlen, grCells_upd k hk]
  · intro i hi
    by_cases hik : i = k
    · subst hik
      simp only [upd_same]
      rw [← hlen, ints_append]
      exact ho.kept hs (fun g' hb e => by simp [blk] at hb; simp at e; omega)
    · simp only [upd_ne _ _ _ hik]
      refine ((h.own i hi).kept hg (fun g' hb e => h.apart i k g' hi hk hik hb e)).kept hs (fun g' hb e => ?_)
      simp at e
      exact h.ne hi (by rw [hb, e])
  · intro i j g' hi hj hij hb
    by_cases hik : i = k
    · subst hik
      rw [upd_same] at hb
      rw [upd_ne _ _ _ (fun e => hij e.symm)]
      intro hb'
      simp [blk] at hb
      exact hgnew j g' hj (fun e => hij e.symm) hb' hb.symm
    · rw [upd_ne _ _ _ hik] at hb
      by_cases hjk : j = k
      · subst hjk
        rw [upd_same]
        intro hb'
        simp [blk] at hb'
        exact hgnew i g' hi hik hb hb'.symm
      · rw [upd_ne _ _ _ hjk]
        exact h.apart i j g' hi hj hij hb
  · intro i g' hi hb
    by_cases hik : i = k
    · subst hik
      rw [upd_same] at hb
      simp [blk] at hb
      rcases hw with hw | hw
      · exact h.lows i g' hi (by rw [hw, ← hb]; rfl)
      · omega
    · rw [upd_ne _ _ _ hik] at hb
      exact h.lows i g' hi hb

/-- Below B nothing turns by that. -/
theorem Gr.appendBelow (h : Gr B w gb A C Z) {k : Nat} (hk : k < 6) {w1 : World} {v : Value} (hB : B ≤ w.heap.size) (hg : w.grownBy w1 (blk (A k))) : Below B w (w1.setCell ⟨gb, k, none⟩ v) :=
  ((Below.refl B w).grown hg hB (fun g hgb => h.lows k g hk hgb)).setCell h.low _
end

end Go.Proofs.Ybulkaqbo
