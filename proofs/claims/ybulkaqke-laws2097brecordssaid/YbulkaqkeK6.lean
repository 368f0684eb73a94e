import Derived.Test.YbulkaqkeK5
namespace Go.Proofs.Ybulkaqke
open Go.RowKit Go.WideMaps Go.Maps

section
variable {W0 w w1 : World} {mb eb wb N M : Nat} {D D2 : DataW Unit} {ka : Option Addr} {kc : Nat} {ks : List ByteArray} {F pb tb ct i : Nat} {G : Nat → Grp} {mem : Nat → Mem} {hb : Nat} {s : ByteArray} {ka' : Option Addr} {kl kc' : Nat} {l : Bool}

theorem Top.pTag (h : Top w W0.heap.size F pb tb ct i G mem) {w' : World} (hg : w.grownBy w' (some tb)) : Tag w' pb 41 :=
  ⟨_, (hg.block pb (Array.getElem?_eq_some_iff.1 h.box).1 (fun e => h.ne (Option.some.inj e))).trans h.box⟩

/-- A member more of top. -/
theorem top_step (hs : St W0 w mb eb wb N M D D2 ka kc ks) (ht : Top w W0.heap.size F pb tb ct i G mem) (hF : F ≤ w.heap.size) (m : Mem) (hm : MemRow w (G i) m) (hmf : ∀ x, blk m.a = some x → F ≤ x ∧ x < w.heap.size) {g cap : Nat}
    (ho : Own w1 41 13 (some ⟨g, 0, none⟩) (i + 1) cap (elems (fun j => (G j).name) mem i ++ (leafV (G i).name m.val).toList)) (hg : (w.alloc (.cells (leafV (G i).name m.val) 41)).grownBy w1 (some tb))
    (hw : (some ⟨tb, 0, none⟩ : Option Addr) = some ⟨g, 0, none⟩ ∨ g = (w.alloc (.cells (leafV (G i).name m.val) 41)).heap.size) :
    St W0 (w1.setCell ⟨pb, 8, none⟩ (.slice (some ⟨g, 0, none⟩) (i + 1) cap)) mb eb wb N M D D2 ka kc ks ∧ Top (w1.setCell ⟨pb, 8, none⟩ (.slice (some ⟨g, 0, none⟩) (i + 1) cap)) W0.heap.size w1.heap.size pb g cap (i + 1) G (fun j => if j = i then m else mem j) ∧
      (Gb w hb s ka' kl kc' l → Gb (w1.setCell ⟨pb, 8, none⟩ (.slice (some ⟨g, 0, none⟩) (i + 1) cap)) hb s ka' kl kc' l) := by
  have gA := World.grownBy_alloc w (.cells (leafV (G i).name m.val) 41) none
  have gC := grownBy_setCell w1 ⟨pb, 8, none⟩ (.slice (some ⟨g, 0, none⟩) (i + 1) cap)
  have hsa := hs.more gA
  have hta := ht.kept gA (fun x hx => by cases hx)
  have htag := hta.pTag hg
  refine ⟨(hsa.kept hg ?_).kept gC ?_, hta.next (Nat.le_trans hF gA.size) hsa.bel.size ho hg hw (hm.kept gA (fun g _ e => by cases e)) (fun x hx => ⟨(hmf x hx).1, Nat.lt_of_lt_of_le (hmf x hx).2 gA.size⟩) _ (Nat.le_refl _), fun hb => ((hb.kept gA (fun x hx => by cases hx)).kept hg ?_).kept gC ?_⟩
  · intro x hx
    cases hx
    exact ⟨ht.tB, 41, hta.row.tag rfl, by decide, by decide⟩
  · intro x hx
    cases hx
    exact ⟨ht.pB, 41, htag, by decide, by decide⟩
  · intro x hx
    cases hx
    exact not_tag (hta.row.tag rfl) (by decide)
  · intro x hx
    cases hx
    exact not_tag htag (by decide)

/-- What is known inside the loop over a group's kids. -/
structure In4 (W0 w : World) (mb eb wb N M : Nat) (D D2 : DataW Unit) (ka : Option Addr) (kc : Nat) (ks : List ByteArray) (F pb tb ct i : Nat) (G : Nat → Grp) (mem : Nat → Mem) (hb : Nat) (s : ByteArray) (ka' : Option Addr) (kl kc' : Nat) (l : Bool) (qb gb cg k : Nat) : Prop where
  st : St W0 w mb eb wb N M D D2 ka kc ks
  top : Top w W0.heap.size F pb tb ct i G mem
  gr : Gb w hb s ka' kl kc' l
  ge : Ge w F qb gb cg k (G i).name (G i).kid
  fr : F ≤ w.heap.size
  fb : W0.heap.size ≤ F

variable {qb gb cg k : Nat}
theorem Ge.qTag {nm : ByteArray} {kid : Nat → ByteArray} (h : Ge w F qb gb cg k nm kid) {w' : World} (hg : w.grownBy w' (some gb)) : Tag w' qb 41 :=
  ⟨_, (hg.block qb (Array.getElem?_eq_some_iff.1 h.box).1 (fun e => h.ne (Option.some.inj e))).trans h.box⟩

theorem In4.elem (h : In4 W0 w mb eb wb N M D D2 ka kc ks F pb tb ct i G mem hb s ka' kl kc' l qb gb cg k) {g cap : Nat}
    (ho : Own w1 41 13 (some ⟨g, 0, none⟩) (k + 1) cap (elems (G i).kid (fun _ => ⟨none, 0, 0⟩) k ++ (leafV ((G i).kid k) (Mem.val ⟨none, 0, 0⟩)).toList)) (hg : (w.alloc (.cells (leafV ((G i).kid k) (Mem.val ⟨none, 0, 0⟩)) 41)).grownBy w1 (some gb))
    (hw : (some ⟨gb, 0, none⟩ : Option Addr) = some ⟨g, 0, none⟩ ∨ g = (w.alloc (.cells (leafV ((G i).kid k) (Mem.val ⟨none, 0, 0⟩)) 41)).heap.size) :
    In4 W0 (w1.setCell ⟨qb, 8, none⟩ (.slice (some ⟨g, 0, none⟩) (k + 1) cap)) mb eb wb N M D D2 ka kc ks F pb tb ct i G mem hb s ka' kl kc' l qb g cap (k + 1) := by
  have gA := World.grownBy_alloc w (.cells (leafV ((G i).kid k) (Mem.val ⟨none, 0, 0⟩)) 41) none
  have gC := grownBy_setCell w1 ⟨qb, 8, none⟩ (.slice (some ⟨g, 0, none⟩) (k + 1) cap)
  have hge := h.ge.kept gA (fun x hx => by cases hx)
  have htag := hge.qTag hg
  have hF1 := Nat.le_trans h.fr gA.size
  refine ⟨((h.st.more gA).kept hg ?_).kept gC ?_, ((h.top.kept gA (fun x hx => by cases hx)).kept hg ?_).kept gC ?_, ((h.gr.kept gA (fun x hx => by cases hx)).kept hg ?_).kept gC ?_, hge.next hF1 ho hg hw, Nat.le_trans (Nat.le_trans hF1 hg.size) gC.size, h.fb⟩
  · intro x hx
    cases hx
    exact ⟨Nat.le_trans h.fb h.ge.gF, 41, hge.row.tag rfl, by decide, by decide⟩
  · intro x hx
    cases hx
    exact ⟨Nat.le_trans h.fb h.ge.qF, 41, htag, by decide, by decide⟩
  · intro x hx
    cases hx
    exact .inl h.ge.gF
  · intro x hx
    cases hx
    exact .inl h.ge.qF
  · intro x hx
    cases hx
    exact not_tag (hge.row.tag rfl) (by decide)
  · intro x hx
    cases hx
    exact not_tag htag (by decide)

theorem In4.put (h : In4 W0 w mb eb wb N M D D2 ka kc ks F pb tb ct i G mem hb s ka' kl kc' l qb gb cg k) {M' : Nat} {D' : DataW Unit} (hm : MapIs w1 wb M' D') (hg : w.grownBy w1 (some wb)) :
    In4 W0 w1 mb eb wb N M' D D' ka kc ks F pb tb ct i G mem hb s ka' kl kc' l qb gb cg k := by
  have hn : ∀ t x, some wb = some x → ¬ Tag w x t := by
    intro t x hx
    cases hx
    exact h.st.m2.no t
  exact ⟨h.st.put2 hm hg, h.top.kept hg (fun x hx => .inr (hn 41 x hx)), h.gr.kept hg (fun x hx => hn 25 x hx), h.ge.kept hg (fun x hx => hn 41 x hx), Nat.le_trans h.fr hg.size, h.fb⟩

theorem In4.key (h : In4 W0 w mb eb wb N M D D2 ka kc ks F pb tb ct i G mem hb s ka' kl kc' l qb gb cg k) {ka2 : Option Addr} {kc2 : Nat} {ks2 : List ByteArray} (hs : St W0 w1 mb eb wb N M D D2 ka2 kc2 ks2) (hg : w.grownBy w1 (blk ka)) :
    In4 W0 w1 mb eb wb N M D D2 ka2 kc2 ks2 F pb tb ct i G mem hb s ka' kl kc' l qb gb cg k := by
  have hn : ∀ t x, t ≠ 9 → blk ka = some x → ¬ Tag w x t := fun t x ht hx => not_tag (h.st.ky.tag hx) (fun e => ht e.symm)
  exact ⟨hs, h.top.kept hg (fun x hx => .inr (hn 41 x (by decide) hx)), h.gr.kept hg (fun x hx => hn 25 x (by decide) hx), h.ge.kept hg (fun x hx => hn 41 x (by decide) hx), Nat.le_trans h.fr hg.size, h.fb⟩

/-- The same at a step that only makes blocks. -/
theorem In4.start (hs : St W0 w mb eb wb N M D D2 ka kc ks) (ht : Top w W0.heap.size F pb tb ct i G mem) (hg : Gb w hb s ka' kl kc' l) (hF : F ≤ w.heap.size) (hgr : w.grownBy w1 none) (he : Ge w1 w.heap.size qb gb cg 0 (G i).name (G i).kid) :
    In4 W0 w1 mb eb wb N M D D2 ka kc ks w.heap.size pb tb ct i G mem hb s ka' kl kc' l qb gb cg 0 :=
  ⟨hs.more hgr, (ht.wide hF).kept hgr (fun x hx => by cases hx), hg.kept hgr (fun x hx => by cases hx), he, hgr.size, hs.bel.size⟩
end

theorem grownBy_drew (w : World) : w.grownBy w.drew none := ⟨rfl, rfl, rfl, Nat.le_refl _, fun _ _ _ => rfl⟩

/-- Made in the one order. -/
theorem made_ge1 (w : World) (n : Nat) (nm : ByteArray) (kid : Nat → ByteArray) (xs : Array Value) (hn : n ≤ 256) (hx : xs.size = n * 13) :
    w.grownBy ((w.alloc (.cells xs 41)).alloc (.cells (leafV nm (.slice (some ⟨w.heap.size, 0, none⟩) 0 n)) 41)).drew none ∧
    Ge ((w.alloc (.cells xs 41)).alloc (.cells (leafV nm (.slice (some ⟨w.heap.size, 0, none⟩) 0 n)) 41)).drew w.heap.size (w.heap.size + 1) w.heap.size n 0 nm kid := by
  have g1 := World.grownBy_alloc w (.cells xs 41) none
  have g2 := World.grownBy_alloc (w.alloc (.cells xs 41)) (.cells (leafV nm (.slice (some ⟨w.heap.size, 0, none⟩) 0 n)) 41) none
  have h1 := heap_alloc_new w (.cells xs 41)
  have h2 := heap_alloc_new (w.alloc (.cells xs 41)) (.cells (leafV nm (.slice (some ⟨w.heap.size, 0, none⟩) 0 n)) 41)
  rw [World.size_alloc] at h2
  have g3 := grownBy_comp g1 g2
  have e : Ge ((w.alloc (.cells xs 41)).alloc (.cells (leafV nm (.slice (some ⟨w.heap.size, 0, none⟩) 0 n)) 41)) w.heap.size (w.heap.size + 1) w.heap.size n 0 nm kid := Ge.mk' hn hx ((g2.block _ (by simp) (by simp)).trans h1) h2 (by omega) (by omega) (by omega) kid
  exact ⟨⟨g3.os, g3.tape, g3.output, g3.size, g3.block⟩, e.kept (grownBy_drew _) (fun x hx => by cases hx)⟩

/-- Made in the other. -/
theorem made_ge2 (w : World) (n : Nat) (nm : ByteArray) (kid : Nat → ByteArray) (xs : Array Value) (hn : n ≤ 256) (hx : xs.size = n * 13) :
    w.grownBy ((w.alloc (.cells (leafV nm (.slice (some ⟨w.heap.size + 1, 0, none⟩) 0 n)) 41)).alloc (.cells xs 41)).drew none ∧
    Ge ((w.alloc (.cells (leafV nm (.slice (some ⟨w.heap.size + 1, 0, none⟩) 0 n)) 41)).alloc (.cells xs 41)).drew w.heap.size w.heap.size (w.heap.size + 1) n 0 nm kid := by
  have g1 := World.grownBy_alloc w (.cells (leafV nm (.slice (some ⟨w.heap.size + 1, 0, none⟩) 0 n)) 41) none
  have g2 := World.grownBy_alloc (w.alloc (.cells (leafV nm (.slice (some ⟨w.heap.size + 1, 0, none⟩) 0 n)) 41)) (.cells xs 41) none
  have h1 := heap_alloc_new w (.cells (leafV nm (.slice (some ⟨w.heap.size + 1, 0, none⟩) 0 n)) 41)
  have h2 := heap_alloc_new (w.alloc (.cells (leafV nm (.slice (some ⟨w.heap.size + 1, 0, none⟩) 0 n)) 41)) (.cells xs 41)
  rw [World.size_alloc] at h2
  have g3 := grownBy_comp g1 g2
  have e : Ge ((w.alloc (.cells (leafV nm (.slice (some ⟨w.heap.size + 1, 0, none⟩) 0 n)) 41)).alloc (.cells xs 41)) w.heap.size w.heap.size (w.heap.size + 1) n 0 nm kid := Ge.mk' hn hx h2 ((g2.block _ (by simp) (by simp)).trans h1) (by omega) (by omega) (by omega) kid
  exact ⟨⟨g3.os, g3.tape, g3.output, g3.size, g3.block⟩, e.kept (grownBy_drew _) (fun x hx => by cases hx)⟩

theorem box_at {w : World} {q : Nat} {s : ByteArray} {x : Value} (h : w.heap[q]? = some (.cells (leafV s x) 41 (0, 0))) (t : Nat) (v : Value) (hv : (leafV s x)[t]? = some v) : w.cell? ⟨q, t, none⟩ = some v := by
  simp only [World.cell?, h]
  exact hv
end Go.Proofs.Ybulkaqke
