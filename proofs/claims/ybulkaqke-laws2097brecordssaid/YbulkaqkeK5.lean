import Derived.Test.YbulkaqkeK4
namespace Go.Proofs.Ybulkaqke
open Go.RowKit Go.WideMaps Go.Maps

/-- The loop variable's box: block hb holds the group. -/
def Gb (w : World) (hb : Nat) (s : ByteArray) (ka : Option Addr) (kl kc : Nat) (l : Bool) : Prop := w.heap[hb]? = some (.cells #[.string s, .slice ka kl kc, .bool l] 25 (0, 0))

section
variable {w w' : World} {hb : Nat} {s : ByteArray} {ka : Option Addr} {kl kc : Nat} {l : Bool}
theorem Gb.tag (h : Gb w hb s ka kl kc l) : Tag w hb 25 := ⟨_, h⟩
theorem Gb.kept (h : Gb w hb s ka kl kc l) {r : Option Nat} (hg : w.grownBy w' r) (hr : ∀ x, r = some x → ¬ Tag w x 25) : Gb w' hb s ka kl kc l :=
  (hg.block hb (Array.getElem?_eq_some_iff.1 h).1 (fun e => hr hb e.symm h.tag)).trans h
theorem Gb.new (w : World) (s : ByteArray) (ka : Option Addr) (kl kc : Nat) (l : Bool) : Gb (w.alloc (.cells #[.string s, .slice ka kl kc, .bool l] 25)) w.heap.size s ka kl kc l := heap_alloc_new w _
theorem Gb.c0 (h : Gb w hb s ka kl kc l) : w.cell? ⟨hb, 0, none⟩ = some (.string s) := by
  unfold Gb at h
  simp only [World.cell?, h]
  rfl
theorem Gb.c1 (h : Gb w hb s ka kl kc l) : w.cell? ⟨hb, 1, none⟩ = some (.slice ka kl kc) := by
  unfold Gb at h
  simp only [World.cell?, h]
  rfl
theorem Gb.c2 (h : Gb w hb s ka kl kc l) : w.cell? ⟨hb, 2, none⟩ = some (.bool l) := by
  unfold Gb at h
  simp only [World.cell?, h]
  rfl
end

theorem not_tag {w : World} {x : Nat} {t u : TypeId} (h : Tag w x t) (hne : t ≠ u) : ¬ Tag w x u := fun k => hne (h.one k)

section
variable {w w' : World} {B F pb tb ct i : Nat} {G : Nat → Grp} {mem : Nat → Mem}
theorem box_cell {q : Nat} {s : ByteArray} {v : Value} (h : w.heap[q]? = some (.cells (leafV s v) 41 (0, 0))) : w.cell? ⟨q, 8, none⟩ = some v ∧ w.frozen? ⟨q, 8, none⟩ = false := by
  constructor
  · simp only [World.cell?, h]
    rfl
  · simp [World.frozen?, h]

theorem Top.c8 (h : Top w B F pb tb ct i G mem) : w.cell? ⟨pb, 8, none⟩ = some (.slice (some ⟨tb, 0, none⟩) i ct) := (box_cell h.box).1
theorem Top.c8' (h : Top w B F pb tb ct i G mem) (hg : w.grownBy w' (some tb)) : w'.cell? ⟨pb, 8, none⟩ = some (.slice (some ⟨tb, 0, none⟩) i ct) ∧ w'.frozen? ⟨pb, 8, none⟩ = false :=
  box_cell ((hg.block pb (Array.getElem?_eq_some_iff.1 h.box).1 (fun e => h.ne (Option.some.inj e))).trans h.box)

theorem Top.start (w : World) (B n : Nat) (hn : n ≤ 256) (hB : B ≤ w.heap.size) (xs : Array Value) (hx : xs.size = n * 13) (G : Nat → Grp) (mem : Nat → Mem) :
    Top ((w.alloc (.cells xs 41)).alloc (.cells (leafV topS (.slice (some ⟨w.heap.size, 0, none⟩) 0 n)) 41)) B (w.heap.size + 1 + 1) (w.heap.size + 1) w.heap.size n 0 G mem := by
  have h1 := heap_alloc_new w (.cells xs 41)
  have h2 := heap_alloc_new (w.alloc (.cells xs 41)) (.cells (leafV topS (.slice (some ⟨w.heap.size, 0, none⟩) 0 n)) 41)
  rw [World.size_alloc] at h2
  refine ⟨h2, Own.mk (((World.grownBy_alloc _ (.cells (leafV topS (.slice (some ⟨w.heap.size, 0, none⟩) 0 n)) 41) none).block _ (by simp) (by simp)).trans h1) (Nat.zero_le _) (by unfold maxLen; omega) hx (by simp [elems]), by omega, by omega, by omega, by omega, hB, by omega, by omega⟩

theorem Ge.c8 {qb gb cg k : Nat} {nm : ByteArray} {kid : Nat → ByteArray} (h : Ge w F qb gb cg k nm kid) : w.cell? ⟨qb, 8, none⟩ = some (.slice (some ⟨gb, 0, none⟩) k cg) := (box_cell h.box).1
theorem Ge.c8' {qb gb cg k : Nat} {nm : ByteArray} {kid : Nat → ByteArray} (h : Ge w F qb gb cg k nm kid) (hg : w.grownBy w' (some gb)) : w'.cell? ⟨qb, 8, none⟩ = some (.slice (some ⟨gb, 0, none⟩) k cg) ∧ w'.frozen? ⟨qb, 8, none⟩ = false :=
  box_cell ((hg.block qb (Array.getElem?_eq_some_iff.1 h.box).1 (fun e => h.ne (Option.some.inj e))).trans h.box)

theorem Ge.mk' {w : World} {F qb gb n : Nat} {nm : ByteArray} {xs : Array Value} (hn : n ≤ 256) (hx : xs.size = n * 13) (h1 : w.heap[gb]? = some (.cells xs 41 (0, 0))) (h2 : w.heap[qb]? = some (.cells (leafV nm (.slice (some ⟨gb, 0, none⟩) 0 n)) 41 (0, 0))) (hne : qb ≠ gb) (hq : F ≤ qb) (hg : F ≤ gb) (kid : Nat → ByteArray) :
    Ge w F qb gb n 0 nm kid :=
  ⟨h2, Own.mk h1 (Nat.zero_le _) (by unfold maxLen; omega) hx (by simp [elems]), hne, hq, hg⟩
end

theorem madeCells_size (z : Value) (n : Nat) : (madeCells z.cells n).size = n := by simp [madeCells]
end Go.Proofs.Ybulkaqke
