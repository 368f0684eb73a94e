import Derived.Test.YbulkaqkeK2
import Derived.Test.YbulkaqkeLaws
namespace Go.Proofs.Ybulkaqke
open Go.RowKit Go.WideMaps Go.Maps

/-- Block b is a block of cells of type t, not frozen. -/
def Tag (w : World) (b : Nat) (t : TypeId) : Prop := ∃ cur, w.heap[b]? = some (.cells cur t (0, 0))

theorem Tag.one {w : World} {b : Nat} {t u : TypeId} (h : Tag w b t) (k : Tag w b u) : t = u := by
  obtain ⟨x, hx⟩ := h
  obtain ⟨y, hy⟩ := k
  rw [hx] at hy
  simp at hy
  exact hy.2

theorem MapIs.no {w : World} {b n : Nat} {D : DataW Unit} (h : MapIs w b n D) (t : TypeId) : ¬ Tag w b t := by
  obtain ⟨es, clock, hb, _⟩ := h
  rintro ⟨x, hx⟩
  rw [hx] at hb
  simp at hb

theorem Own.tag {w : World} {e : TypeId} {size : Nat} {a : Option Addr} {n c : Nat} {xs : List Value} (h : Own w e size a n c xs) {g : Nat} (hg : blk a = some g) : Tag w g e := by
  rcases h.shape with ⟨rfl, _⟩ | ⟨g', cur, rfl, hh, _⟩
  · cases hg
  · simp [blk] at hg
    subst hg
    exact ⟨_, hh⟩

/-- What is known between two statements of the law: the two records, the encoder, the keys. -/
structure St (W0 w : World) (mb eb wb N M : Nat) (D D2 : DataW Unit) (ka : Option Addr) (kc : Nat) (ks : List ByteArray) : Prop where
  bel : Below W0.heap.size W0 w
  m1 : MapIs w mb N D
  m2 : MapIs w wb M D2
  ne : mb ≠ wb
  e : w.heap[eb]? = some (.cells #[.slice none 0 0, .int .i64 0, .map none, .map (some mb)] 34 (0, 0))
  ky : Own w 9 1 ka ks.length kc (ks.map .string)
  kz : ∀ s ∈ ks, s.size ≤ maxLen
  b1 : W0.heap.size ≤ mb
  b2 : W0.heap.size ≤ wb
  b3 : W0.heap.size ≤ eb
  b4 : ∀ g, blk ka = some g → W0.heap.size ≤ g

section
variable {W0 w w' : World} {mb eb wb N M : Nat} {D D2 : DataW Unit} {ka : Option Addr} {kc : Nat} {ks : List ByteArray}

theorem St.eTag (h : St W0 w mb eb wb N M D D2 ka kc ks) : Tag w eb 34 := ⟨_, h.e⟩

theorem St.e3 (h : St W0 w mb eb wb N M D D2 ka kc ks) : w.cell? ⟨eb, 3, none⟩ = some (.map (some mb)) := by
  simp only [World.cell?, h.e]
  rfl

theorem St.eKept (h : St W0 w mb eb wb N M D D2 ka kc ks) {r : Option Nat} (hg : w.grownBy w' r) (hr : ∀ x, r = some x → ¬ Tag w x 34) : w'.heap[eb]? = some (.cells #[.slice none 0 0, .int .i64 0, .map none, .map (some mb)] 34 (0, 0)) := by
  refine (hg.block eb ?_ ?_).trans h.e
  · exact World.block_lt_of_cell? w _ h.e3
  · intro e
    exact hr eb e.symm h.eTag

/-- A step that turns no block of these. -/
theorem St.kept (h : St W0 w mb eb wb N M D D2 ka kc ks) {r : Option Nat} (hg : w.grownBy w' r) (hr : ∀ x, r = some x → W0.heap.size ≤ x ∧ ∃ t, Tag w x t ∧ t ≠ 34 ∧ t ≠ 9) : St W0 w' mb eb wb N M D D2 ka kc ks := by
  refine ⟨h.bel.grown hg h.bel.size (fun k hk => (hr k hk).1), World.ownsMap.kept h.m1 hg ?_, World.ownsMap.kept h.m2 hg ?_, h.ne, h.eKept hg ?_, h.ky.kept hg ?_, h.kz, h.b1, h.b2, h.b3, h.b4⟩
  · intro e
    obtain ⟨_, t, ht, _⟩ := hr mb e.symm
    exact h.m1.no t ht
  · intro e
    obtain ⟨_, t, ht, _⟩ := hr wb e.symm
    exact h.m2.no t ht
  · intro x hx k
    obtain ⟨_, t, ht, h34, _⟩ := hr x hx
    exact h34 (ht.one k)
  · intro g hgb e
    obtain ⟨_, t, ht, _, h9⟩ := hr g e
    exact h9 (ht.one (h.ky.tag hgb))

theorem St.more (h : St W0 w mb eb wb N M D D2 ka kc ks) (hg : w.grownBy w' none) : St W0 w' mb eb wb N M D D2 ka kc ks := h.kept hg (fun x hx => by cases hx)

/-- An element put into the encoder's record. -/
theorem St.put1 (h : St W0 w mb eb wb N M D D2 ka kc ks) {N' : Nat} {D' : DataW Unit} (hm : MapIs w' mb N' D') (hg : w.grownBy w' (some mb)) : St W0 w' mb eb wb N' M D' D2 ka kc ks := by
  refine ⟨h.bel.grown hg h.bel.size (fun k hk => by cases hk; exact h.b1), hm, World.ownsMap.kept h.m2 hg ?_, h.ne, h.eKept hg ?_, h.ky.kept hg ?_, h.kz, h.b1, h.b2, h.b3, h.b4⟩
  · exact fun e => h.ne (Option.some.inj e).symm
  · intro x hx
    cases hx
    exact h.m1.no _
  · intro g hgb e
    cases e
    exact h.m1.no _ (h.ky.tag hgb)

/-- An element put into the wanted record. -/
theorem St.put2 (h : St W0 w mb eb wb N M D D2 ka kc ks) {M' : Nat} {D' : DataW Unit} (hm : MapIs w' wb M' D') (hg : w.grownBy w' (some wb)) : St W0 w' mb eb wb N M' D D' ka kc ks := by
  refine ⟨h.bel.grown hg h.bel.size (fun k hk => by cases hk; exact h.b2), World.ownsMap.kept h.m1 hg ?_, hm, h.ne, h.eKept hg ?_, h.ky.kept hg ?_, h.kz, h.b1, h.b2, h.b3, h.b4⟩
  · exact fun e => h.ne (Option.some.inj e)
  · intro x hx
    cases hx
    exact h.m2.no _
  · intro g hgb e
    cases e
    exact h.m2.no _ (h.ky.tag hgb)

/-- A key more. -/
theorem St.key (h : St W0 w mb eb wb N M D D2 ka kc ks) {g cap : Nat} {s : ByteArray} (ho : Own w' 9 1 (some ⟨g, 0, none⟩) (ks.length + 1) cap (ks.map .string ++ [.string s])) (hg : w.grownBy w' (blk ka)) (hw : ka = some ⟨g, 0, none⟩ ∨ g = w.heap.size) (hs : s.size ≤ maxLen) :
    St W0 w' mb eb wb N M D D2 (some ⟨g, 0, none⟩) cap (ks ++ [s]) := by
  have hk : ∀ x, blk ka = some x → Tag w x 9 := fun x hx => h.ky.tag hx
  refine ⟨h.bel.grown hg h.bel.size (fun k hk => h.b4 k hk), World.ownsMap.kept h.m1 hg ?_, World.ownsMap.kept h.m2 hg ?_, h.ne, h.eKept hg ?_, ?_, ?_, h.b1, h.b2, h.b3, ?_⟩
  · exact fun e => h.m1.no _ (hk _ e.symm)
  · exact fun e => h.m2.no _ (hk _ e.symm)
  · exact fun x hx k => by have := (hk x hx).one k; simp at this
  · simpa using ho
  · intro x hx
    rcases List.mem_append.1 hx with hx | hx
    · exact h.kz x hx
    · simp at hx
      rw [hx]
      exact hs
  · intro x hx
    simp [blk] at hx
    subst hx
    rcases hw with hw | hw
    · exact h.b4 g (by rw [hw]; rfl)
    · rw [hw]
      exact h.bel.size
end

/-- The cells of the first k elements. -/
def elems (nm : Nat → ByteArray) (mem : Nat → Mem) : Nat → List Value
  | 0 => []
  | k + 1 => elems nm mem k ++ (leafV (nm k) (mem k).val).toList

theorem elems_length (nm : Nat → ByteArray) (mem : Nat → Mem) (k : Nat) : (elems nm mem k).length = k * 13 := by
  induction k with
  | zero => rfl
  | succ k ih => simp [elems, ih, leafV]; omega

theorem elems_at (nm : Nat → ByteArray) (mem : Nat → Mem) (k j t : Nat) (v : Value) (hj : j < k) (hv : (leafV (nm j) (mem j).val)[t]? = some v) : (elems nm mem k)[j * 13 + t]? = some v := by
  have ht : t < 13 := by
    have := (Array.getElem?_eq_some_iff.1 hv).1
    simpa [leafV] using this
  induction k with
  | zero => omega
  | succ k ih =>
    have hl := elems_length nm mem k
    by_cases hjk : j < k
    · rw [elems, List.getElem?_append_left (by omega)]
      exact ih hjk
    · obtain rfl : j = k := by omega
      rw [elems, List.getElem?_append_right (by omega), hl, show j * 13 + t - j * 13 = t by omega, Array.getElem?_toList]
      exact hv

theorem elRow_of {w : World} {g k c : Nat} {nm : Nat → ByteArray} {mem : Nat → Mem} (h : Own w 41 13 (some ⟨g, 0, none⟩) k c (elems nm mem k)) : ElRow w g k nm mem :=
  fun j hj t v hv => h.cell (elems_at nm mem k j t v hj hv)

theorem elems_one (nm : Nat → ByteArray) (mem mem' : Nat → Mem) (k : Nat) (h : ∀ j, j < k → mem j = mem' j) : elems nm mem k = elems nm mem' k := by
  induction k with
  | zero => rfl
  | succ k ih => rw [elems, elems, ih (fun j hj => h j (by omega)), h k (by omega)]

/-- A member's slice is as the group says, its row owned. -/
def MemRow (w : World) (q : Grp) (m : Mem) : Prop := if q.leaf then m = ⟨none, 0, 0⟩ else ∃ g cg, m = ⟨some ⟨g, 0, none⟩, q.kids, cg⟩ ∧ Own w 41 13 (some ⟨g, 0, none⟩) q.kids cg (elems q.kid (fun _ => ⟨none, 0, 0⟩) q.kids)

theorem MemRow.ok {w : World} {q : Grp} {m : Mem} (h : MemRow w q m) : MemOk w q m := by
  unfold MemRow at h
  unfold MemOk
  split at h
  · rename_i hl
    rw [if_pos hl]
    exact h
  · rename_i hl
    rw [if_neg hl]
    obtain ⟨g, cg, h1, h2⟩ := h
    exact ⟨g, cg, h1, elRow_of h2⟩

def topS : ByteArray := { data := #[116, 111, 112] }

/-- What is known of top: its box pb, its row tb, the first i members. Its blocks lie below F. -/
structure Top (w : World) (B F pb tb ct i : Nat) (G : Nat → Grp) (mem : Nat → Mem) : Prop where
  box : w.heap[pb]? = some (.cells (leafV topS (.slice (some ⟨tb, 0, none⟩) i ct)) 41 (0, 0))
  row : Own w 41 13 (some ⟨tb, 0, none⟩) i ct (elems (fun j => (G j).name) mem i)
  ne : pb ≠ tb
  pF : pb < F
  tF : tb < F
  pB : B ≤ pb
  tB : B ≤ tb
  mems : ∀ j, j < i → MemRow w (G j) (mem j)
  far : ∀ j, j < i → ∀ g, blk (mem j).a = some g → g < F ∧ g ≠ pb ∧ g ≠ tb

section
variable {w w' : World} {B F pb tb ct i : Nat} {G : Nat → Grp} {mem : Nat → Mem}

theorem MemRow.tag {q : Grp} {m : Mem} (h : MemRow w q m) {g : Nat} (hg : blk m.a = some g) : Tag w g 41 := by
  unfold MemRow at h
  split at h
  · rw [h] at hg
    cases hg
  · obtain ⟨g', cg, rfl, h2⟩ := h
    exact h2.tag hg

theorem MemRow.kept {q : Grp} {m : Mem} (h : MemRow w q m) {r : Option Nat} (hg : w.grownBy w' r) (hr : ∀ g, blk m.a = some g → r ≠ some g) : MemRow w' q m := by
  unfold MemRow at h ⊢
  split
  · rename_i hl
    rw [if_pos hl] at h
    exact h
  · rename_i hl
    rw [if_neg hl] at h
    obtain ⟨g', cg, rfl, h2⟩ := h
    exact ⟨g', cg, rfl, h2.kept hg hr⟩

theorem Top.kept (h : Top w B F pb tb ct i G mem) {r : Option Nat} (hg : w.grownBy w' r) (hr : ∀ x, r = some x → F ≤ x ∨ ¬ Tag w x 41) : Top w' B F pb tb ct i G mem := by
  have hp : ∀ x, x < F → Tag w x 41 → r ≠ some x := by
    intro x hx ht e
    rcases hr x e with h | h
    · omega
    · exact h ht
  have hpb : Tag w pb 41 := ⟨_, h.box⟩
  have hlt : pb < w.heap.size := (Array.getElem?_eq_some_iff.1 h.box).1
  refine ⟨(hg.block pb hlt (fun e => hp pb h.pF hpb e.symm)).trans h.box, h.row.kept hg ?_, h.ne, h.pF, h.tF, h.pB, h.tB, ?_, h.far⟩
  · intro g hgb
    simp [blk] at hgb
    subst hgb
    exact hp _ h.tF (h.row.tag rfl)
  · intro j hj
    exact (h.mems j hj).kept hg (fun g hgb => hp g (h.far j hj g hgb).1 ((h.mems j hj).tag hgb))

theorem Top.wide (h : Top w B F pb tb ct i G mem) {F' : Nat} (hF : F ≤ F') : Top w B F' pb tb ct i G mem :=
  ⟨h.box, h.row, h.ne, Nat.lt_of_lt_of_le h.pF hF, Nat.lt_of_lt_of_le h.tF hF, h.pB, h.tB, h.mems, fun j hj g hg => ⟨Nat.lt_of_lt_of_le (h.far j hj g hg).1 hF, (h.far j hj g hg).2⟩⟩

/-- The loop variable's box of a group. -/
structure Ge (w : World) (F qb gb cg k : Nat) (nm : ByteArray) (kid : Nat → ByteArray) : Prop where
  box : w.heap[qb]? = some (.cells (leafV nm (.slice (some ⟨gb, 0, none⟩) k cg)) 41 (0, 0))
  row : Own w 41 13 (some ⟨gb, 0, none⟩) k cg (elems kid (fun _ => ⟨none, 0, 0⟩) k)
  ne : qb ≠ gb
  qF : F ≤ qb
  gF : F ≤ gb

theorem Ge.kept {qb gb cg k : Nat} {nm : ByteArray} {kid : Nat → ByteArray} (h : Ge w F qb gb cg k nm kid) {r : Option Nat} (hg : w.grownBy w' r) (hr : ∀ x, r = some x → ¬ Tag w x 41) : Ge w' F qb gb cg k nm kid := by
  have hlt : qb < w.heap.size := (Array.getElem?_eq_some_iff.1 h.box).1
  refine ⟨(hg.block qb hlt (fun e => hr qb e.symm ⟨_, h.box⟩)).trans h.box, h.row.kept hg ?_, h.ne, h.qF, h.gF⟩
  intro g hgb e
  exact hr g e (h.row.tag hgb)

/-- A kid more: the row grew (w to w1), then its slice was stored in the box. -/
theorem Ge.next {w1 : World} {qb gb cg k g cap : Nat} {nm : ByteArray} {kid : Nat → ByteArray} (h : Ge w F qb gb cg k nm kid) (hF : F ≤ w.heap.size) (ho : Own w1 41 13 (some ⟨g, 0, none⟩) (k + 1) cap (elems kid (fun _ => ⟨none, 0, 0⟩) k ++ (leafV (kid k) (.slice none 0 0)).toList))
    (hg : w.grownBy w1 (some gb)) (hw : (some ⟨gb, 0, none⟩ : Option Addr) = some ⟨g, 0, none⟩ ∨ g = w.heap.size) : Ge (w1.setCell ⟨qb, 8, none⟩ (.slice (some ⟨g, 0, none⟩) ((k + 1 : Nat)) cap)) F qb g cap (k + 1) nm kid := by
  have hlt : qb < w.heap.size := (Array.getElem?_eq_some_iff.1 h.box).1
  have hne : qb ≠ g := by
    rcases hw with hw | hw
    · simp at hw
      rw [← hw]
      exact h.ne
    · omega
  have hb1 : w1.heap[qb]? = _ := (hg.block qb hlt (fun e => h.ne (Option.some.inj e))).trans h.box
  refine ⟨?_, Own.kept (w := w1) ho (grownBy_setCell w1 ⟨qb, 8, none⟩ _) ?_, hne, h.qF, ?_⟩
  · rw [heap_setCell_at w1 qb 8 _ _ _ hb1]
    rfl
  · intro x hx e
    simp [blk] at hx
    simp at e
    omega
  · rcases hw with hw | hw
    · simp at hw
      rw [← hw]
      exact h.gF
    · omega

/-- A member more. -/
theorem Top.next {w1 : World} {g cap : Nat} {m : Mem} (h : Top w B F pb tb ct i G mem) (hF : F ≤ w.heap.size) (hB : B ≤ w.heap.size) (ho : Own w1 41 13 (some ⟨g, 0, none⟩) (i + 1) cap (elems (fun j => (G j).name) mem i ++ (leafV (G i).name m.val).toList))
    (hg : w.grownBy w1 (some tb)) (hw : (some ⟨tb, 0, none⟩ : Option Addr) = some ⟨g, 0, none⟩ ∨ g = w.heap.size) (hm : MemRow w (G i) m) (hmf : ∀ x, blk m.a = some x → F ≤ x ∧ x < w.heap.size) (F' : Nat) (hF' : w1.heap.size ≤ F') :
    Top (w1.setCell ⟨pb, 8, none⟩ (.slice (some ⟨g, 0, none⟩) ((i + 1 : Nat)) cap)) B F' pb g cap (i + 1) G (fun j => if j = i then m else mem j) := by
  have hlt : pb < w.heap.size := (Array.getElem?_eq_some_iff.1 h.box).1
  have hs := hg.size
  have htF := h.tF
  have hpF := h.pF
  have hne : pb ≠ g := by
    rcases hw with hw | hw
    · simp at hw
      rw [← hw]
      exact h.ne
    · omega
  have hgl : g < F' := by
    obtain ⟨cur, hc⟩ := ho.tag (g := g) rfl
    have := (Array.getElem?_eq_some_iff.1 hc).1
    omega
  have hb1 : w1.heap[pb]? = _ := (hg.block pb hlt (fun e => h.ne (Option.some.inj e))).trans h.box
  have hgc := grownBy_setCell w1 ⟨pb, 8, none⟩ (.slice (some ⟨g, 0, none⟩) ((i + 1 : Nat)) cap)
  refine ⟨?_, Own.kept (w := w1) ?_ hgc ?_, hne, by omega, hgl, h.pB, ?_, ?_, ?_⟩
  · rw [heap_setCell_at w1 pb 8 _ _ _ hb1]
    rfl
  · rw [elems, elems_one _ _ mem i (fun j hj => by simp; omega)]
    simpa using ho
  · intro x hx e
    simp [blk] at hx
    simp at e
    omega
  · rcases hw with hw | hw
    · simp at hw
      rw [← hw]
      exact h.tB
    · omega
  · intro j hj
    by_cases hji : j = i
    · subst hji
      simp only [if_true]
      refine (hm.kept hg ?_).kept hgc ?_
      · intro x hx e
        have := hmf x hx
        simp at e
        omega
      · intro x hx e
        have := hmf x hx
        simp at e
        omega
    · have hj' : j < i := by omega
      simp only [hji, if_false]
      refine ((h.mems j hj').kept hg ?_).kept hgc ?_
      · intro x hx e
        have := (h.far j hj' x hx).2.2
        simp at e
        omega
      · intro x hx e
        have := (h.far j hj' x hx).2.1
        simp at e
        omega
  · intro j hj x hx
    by_cases hji : j = i
    · subst hji
      simp only [if_true] at hx
      have := hmf x hx
      refine ⟨by omega, by omega, ?_⟩
      rcases hw with hw | hw
      · simp at hw
        omega
      · omega
    · have hj' : j < i := by omega
      simp only [hji, if_false] at hx
      have h3 := h.far j hj' x hx
      refine ⟨by omega, h3.2.1, ?_⟩
      rcases hw with hw | hw
      · simp at hw
        omega
      · omega
end

/-- The groups that came in. -/
structure Gs where
  name : Nat → ByteArray
  ka : Nat → Option Addr
  kl : Nat → Nat
  kc : Nat → Nat
  kid : Nat → Nat → ByteArray
  leaf : Nat → Bool
def Gs.grp (p : Gs) (j : Nat) : Grp := ⟨p.name j, p.leaf j, p.kl j, p.kid j⟩

structure InGs (w : World) (a : Option Addr) (n : Nat) (p : Gs) : Prop where
  outer : n = 0 ∨ ∃ b o, a = some ⟨b, o, none⟩ ∧ b < w.heap.size ∧ ∀ i, i < n → w.cell? ⟨b, o + i * 3, none⟩ = some (.string (p.name i)) ∧ w.cell? ⟨b, o + i * 3 + 1, none⟩ = some (.slice (p.ka i) (p.kl i) (p.kc i)) ∧ w.cell? ⟨b, o + i * 3 + 2, none⟩ = some (.bool (p.leaf i))
  inner : ∀ i, i < n → In1 w (p.ka i) (p.kl i) (fun j => .string (p.kid i j))
  nameOk : ∀ i, (p.name i).size ≤ maxLen
  kidOk : ∀ i j, (p.kid i j).size ≤ maxLen

theorem InGs.below {w w' : World} {a : Option Addr} {n : Nat} {p : Gs} (h : InGs w a n p) (hb : Below w.heap.size w w') : InGs w' a n p := by
  refine ⟨?_, fun i hi => (h.inner i hi).below hb, h.nameOk, h.kidOk⟩
  rcases h.outer with h | ⟨b, o, ha, hlt, hc⟩
  · exact .inl h
  · refine .inr ⟨b, o, ha, Nat.lt_of_lt_of_le hlt hb.size, fun i hi => ?_⟩
    have hx : ∀ q, w'.cell? ⟨b, q, none⟩ = w.cell? ⟨b, q, none⟩ := fun q => hb.cell (p := ⟨b, q, none⟩) hlt
    rw [hx, hx, hx]
    exact hc i hi

/-- What the loop over the first j groups makes of the wanted record's bound. -/
theorem grpsN_le (G : Nat → Grp) (n j : Nat) (h : ∀ i, i < j → (G i).kids ≤ 256) : grpsN G n j ≤ n + j * 256 := by
  induction j with
  | zero => simp [grpsN]
  | succ j ih =>
    have := ih (fun i hi => h i (by omega))
    have := h j (by omega)
    rw [grpsN]
    split <;> omega
end Go.Proofs.Ybulkaqke
