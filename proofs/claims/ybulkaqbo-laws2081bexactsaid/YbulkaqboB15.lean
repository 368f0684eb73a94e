import Derived.Test.YbulkaqboB14
import Derived.TacticsIn
import Derived.BigFrameIn
namespace Go.Proofs.Ybulkaqbo
open Go.RowKit

section
variable {l n : Nat} {P : Program} {ops : Array Oper} {Q : Exit → Act → World → Prop} {rest : List Oper} {o : Oper} {a : Act} {w w' : World} {v : Value}
theorem wpListIn_run (hgd : o.guard = none) (hnd : ∀ c, o.op ≠ .defer c) (hr : (execOp a.eval o).run P w = .ok (.value v) w') (h : wpListIn (Fence.wide.inRound l) n P ops Q rest (a.put o.dst v) w') : wpListIn (Fence.wide.inRound l) n P ops Q (o :: rest) a w := by
  have hw : Region.wanted o (yielded ops a.tmps) = true := by simp [Region.wanted, hgd]
  refine wpListIn_step fun K hK => ?_
  rw [if_pos hw]
  refine ⟨fun _ _ => trivial, ?_⟩
  rw [Oper.semAt_eq _ _ _ hnd, hr]
  exact hK _ _ h
theorem wpListIn_skips (hgd : o.guard = none) (hnd : ∀ c, o.op ≠ .defer c) (hr : (execOp a.eval o).run P w = .ok .skip w') (h : wpListIn (Fence.wide.inRound l) n P ops Q rest (a.put o.dst undef) w') : wpListIn (Fence.wide.inRound l) n P ops Q (o :: rest) a w := by
  have hw : Region.wanted o (yielded ops a.tmps) = true := by simp [Region.wanted, hgd]
  refine wpListIn_step fun K hK => ?_
  rw [if_pos hw]
  refine ⟨fun _ _ => trivial, ?_⟩
  rw [Oper.semAt_eq _ _ _ hnd, hr]
  exact hK _ _ h
end

def decl3 (p : Procs) (dec : Nat → Int) (X : Nat → Option Addr) (Q C : Nat → Nat) (i : Nat) : List Value := [.int .i64 (p.ln (dec i).toNat), .string (nameOf (p.nm (dec i).toNat)), .slice (X i) (Q i) (C i)]
def dlist (p : Procs) (dec : Nat → Int) (X : Nat → Option Addr) (Q C : Nat → Nat) (k : Nat) : List Value := (List.range k).flatMap (decl3 p dec X Q C)

/-- Between two rounds of 'for d := range s.Declarations()': k rounds so far. -/
structure ExJ (Wb : World) (sb gc cb D l : Nat) (rec0 : Loop) (n : Nat) (p : Procs) (dec : Nat → Int) (k : Nat) (w : World) : Prop where
  bel : Below Wb.heap.size Wb w
  box : w.heap[cb]? = some (.cells #[.pointer (some ⟨sb, 0, none⟩)] 39)
  lp : w.heap[l]? = some (.loop rec0)
  dfr : w.heap[D]? = some (.deferred (some []))
  got : ∃ (a : Option Addr) (c : Nat) (X : Nat → Option Addr) (Q C : Nat → Nat), w.heap[gc]? = some (.cells #[.slice a k c] 42) ∧ Own w 50 3 a k c (dlist p dec X Q C k) ∧ (∀ i, i < k → CondOk w n p (dec i).toNat (.agg #[.slice (X i) (Q i) (C i)])) ∧ ∀ g, blk a = some g → Wb.heap.size ≤ g

theorem ExJ.grow {Wb w w' : World} {sb gc cb D l n k : Nat} {rec0 : Loop} {p : Procs} {dec : Nat → Int} (h : ExJ Wb sb gc cb D l rec0 n p dec k w) (hg : w.grownBy w' none) : ExJ Wb sb gc cb D l rec0 n p dec k w' := by
  have key : ∀ (g : Nat) (o : Obj), w.heap[g]? = some o → w'.heap[g]? = some o := fun g o ho => (hg.block g (Array.getElem?_eq_some_iff.1 ho).1 (by simp)).trans ho
  obtain ⟨a, c, X, Q, C, h1, h2, h3, h4⟩ := h.got
  exact ⟨h.bel.grown hg h.bel.size (by simp), key _ _ h.box, key _ _ h.lp, key _ _ h.dfr, a, c, X, Q, C, key _ _ h1, h2.kept hg (by simp), fun i hi => (h3 i hi).below (below_of_grown hg), h4⟩


theorem putObj_grown (w : World) (l : Nat) (o : Obj) : w.grownBy (w.putObj l o) (some l) := ⟨rfl, rfl, rfl, by simp, fun k _ hk => World.putObj_heap_other (fun e => hk (by rw [e]))⟩

theorem dlist_succ (p : Procs) (dec : Nat → Int) (X : Nat → Option Addr) (Q C : Nat → Nat) (k : Nat) : dlist p dec X Q C (k + 1) = dlist p dec X Q C k ++ decl3 p dec X Q C k := by simp [dlist, List.range_succ]
theorem dlist_congr (p : Procs) (dec : Nat → Int) (X X' : Nat → Option Addr) (Q Q' C C' : Nat → Nat) (k : Nat) (h : ∀ i, i < k → X i = X' i ∧ Q i = Q' i ∧ C i = C' i) : dlist p dec X Q C k = dlist p dec X' Q' C' k := by
  induction k with
  | zero => rfl
  | succ k ih =>
    rw [dlist_succ, dlist_succ, ih (fun i hi => h i (by omega))]
    obtain ⟨e1, e2, e3⟩ := h k (by omega)
    simp [decl3, e1, e2, e3]
theorem dlist_length (p : Procs) (dec : Nat → Int) (X : Nat → Option Addr) (Q C : Nat → Nat) (k : Nat) : (dlist p dec X Q C k).length = k * 3 := by
  induction k with
  | zero => rfl
  | succ k ih => rw [dlist_succ, List.length_append, ih]; simp [decl3]; omega

/-- What a round leaves: the declaration is appended to got. -/
theorem ExJ.next {Wb w W1 W2 : World} {sb gc cb D l n k : Nat} {rec0 : Loop} {p : Procs} {dec : Nat → Int} {x : Option Addr} {q c g cap : Nat} {a : Option Addr} {c0 : Nat} {X : Nat → Option Addr} {Q C : Nat → Nat}
    (h : ExJ Wb sb gc cb D l rec0 n p dec k w) (hC : CondOk w n p (dec k).toNat (.agg #[.slice x q c])) (hgc : w.heap[gc]? = some (.cells #[.slice a k c0] 42)) (hown : Own w 50 3 a k c0 (dlist p dec X Q C k))
    (hX : ∀ i, i < k → CondOk w n p (dec i).toNat (.agg #[.slice (X i) (Q i) (C i)])) (ha : ∀ g, blk a = some g → Wb.heap.size ≤ g) (hlg : Wb.heap.size ≤ gc) (hll : Wb.heap.size ≤ l)
    (h1 : w.grownBy W1 (some l)) (h2 : W1.grownBy W2 (blk a)) (hg : a = some ⟨g, 0, none⟩ ∨ w.heap.size ≤ g) (ho : Own W2 50 3 (some ⟨g, 0, none⟩) (k + 1) cap (dlist p dec X Q C k ++ [.int .i64 (p.ln (dec k).toNat), .string (nameOf (p.nm (dec k).toNat)), .slice x q c]))
    (hl2 : W2.heap[l]? = some (.loop { rec0 with state := .busy })) (hs : rec0.state = .ready) (hp : rec0.pending = none) :
    ((W2.setCell ⟨gc, 0, none⟩ (.slice (some ⟨g, 0, none⟩) (k + 1) cap)).heap[l]? = some (.loop { rec0 with state := .busy })) ∧
    ExJ Wb sb gc cb D l rec0 n p dec (k + 1) ((W2.setCell ⟨gc, 0, none⟩ (.slice (some ⟨g, 0, none⟩) (k + 1) cap)).putObj l (.loop { rec0 with state := .ready, pending := none })) := by
  have ownTag : ∀ g', blk a = some g' → ∃ cur, w.heap[g']? = some (.cells cur 50 (0, 0)) := by
    intro g' hg'
    rcases hown.shape with ⟨h0, _⟩ | ⟨g1, cur, he, hh, _⟩
    · rw [h0] at hg'; cases hg'
    · rw [he] at hg'; cases hg'; exact ⟨cur, hh⟩
  have key : ∀ (g' : Nat) (ob : Obj), w.heap[g']? = some ob → g' ≠ l → blk a ≠ some g' → W2.heap[g']? = some ob := by
    intro g' ob ho' hne1 hne2
    have e1 := (h1.block g' (Array.getElem?_eq_some_iff.1 ho').1 (fun e => hne1 (Option.some.inj e))).trans ho'
    exact (h2.block g' (Array.getElem?_eq_some_iff.1 e1).1 (fun e => hne2 e.symm)).trans e1
  have neL : ∀ (g' : Nat) (k' : Array Value) (t : TypeId), w.heap[g']? = some (.cells k' t (0, 0)) → g' ≠ l := by
    intro g' k' t hg' e
    subst e
    rw [h.lp] at hg'
    cases hg'
  have neA : ∀ (g' : Nat) (k' : Array Value) (t : TypeId), w.heap[g']? = some (.cells k' t (0, 0)) → t ≠ 50 → blk a ≠ some g' := by
    intro g' k' t hg' ht e
    obtain ⟨cur, hc⟩ := ownTag g' e
    rw [hc] at hg'
    cases hg'
    exact ht rfl
  have gc2 := key gc _ hgc (neL _ _ _ hgc) (neA _ _ _ hgc (by decide))
  have hgl : gc ≠ l := neL _ _ _ hgc
  obtain ⟨cur2, hcur2, _⟩ := ho.at
  have hggc : g ≠ gc := by
    intro e
    subst e
    rw [gc2] at hcur2
    cases hcur2
  have hgl2 : g ≠ l := by
    intro e
    subst e
    rw [hl2] at hcur2
    cases hcur2
  have hDl : D ≠ l := by
    intro e
    have h1 := h.dfr
    rw [e, h.lp] at h1
    cases h1
  have hDg : D ≠ gc := by
    intro e
    have h1 := h.dfr
    rw [e, hgc] at h1
    cases h1
  have hDa : blk a ≠ some D := by
    intro e
    obtain ⟨cur, hc⟩ := ownTag D e
    rw [h.dfr] at hc
    cases hc
  have hcg : cb ≠ gc := by
    intro e
    have h1 := h.box
    rw [e, hgc] at h1
    cases h1
  have set2 : ∀ g', g' ≠ gc → (W2.setCell ⟨gc, 0, none⟩ (.slice (some ⟨g, 0, none⟩) (k + 1) cap)).heap[g']? = W2.heap[g']? := fun g' hne => Below.heap_setCell _ _ _ _ hne
  have gS := grownBy_setCell W2 ⟨gc, 0, none⟩ (.slice (some ⟨g, 0, none⟩) (k + 1) cap)
  have hS0 : (W2.setCell ⟨gc, 0, none⟩ (.slice (some ⟨g, 0, none⟩) (k + 1) cap)).heap[l]? = some (.loop { rec0 with state := .busy }) := (set2 l (fun e => hgl e.symm)).trans hl2
  have gP := putObj_grown (W2.setCell ⟨gc, 0, none⟩ (.slice (some ⟨g, 0, none⟩) (k + 1) cap)) l (.loop { rec0 with state := .ready, pending := none })
  have gSet := heap_setCell_at W2 gc 0 (.slice (some ⟨g, 0, none⟩) (k + 1) cap) _ _ gc2
  have kept : ∀ i v, CondOk w n p i v → CondOk ((W2.setCell ⟨gc, 0, none⟩ (.slice (some ⟨g, 0, none⟩) (k + 1) cap)).putObj l (.loop { rec0 with state := .ready, pending := none })) n p i v := by
    intro i v hv
    have c1 := hv.kept h1 (fun g' k' t e hg' => absurd (Option.some.inj e).symm (neL _ _ _ hg'))
    have c2 := c1.kept h2 (fun g' k' t e hg' => by
      obtain ⟨cur, hc⟩ := ownTag g' e
      have e1 := (h1.block g' (Array.getElem?_eq_some_iff.1 hc).1 (fun e => neL _ _ _ hc (Option.some.inj e))).trans hc
      rw [e1] at hg'
      cases hg'
      decide)
    have c3 := c2.kept gS (fun g' k' t e hg' => by
      have e1 : gc = g' := Option.some.inj e
      subst e1
      rw [gc2] at hg'
      cases hg'
      decide)
    exact c3.kept gP (fun g' k' t e hg' => by
      have e1 : l = g' := Option.some.inj e
      subst e1
      rw [hS0] at hg'
      cases hg')
  refine ⟨hS0, ?_, ?_, ?_, ?_, some ⟨g, 0, none⟩, cap, upd X k x, upd Q k q, upd C k c, ?_, ?_, ?_, ?_⟩
  · have b1 := h.bel.grown h1 h.bel.size (fun j e => by cases e; exact hll)
    have b2 := b1.grown h2 b1.size (fun j e => ha j e)
    have b3 := b2.grown gS b2.size (fun j e => by cases e; exact hlg)
    exact b3.grown gP b3.size (fun j e => by cases e; exact hll)
  · exact (World.putObj_heap_other (neL _ _ _ h.box)).trans ((set2 cb hcg).trans (key cb _ h.box (neL _ _ _ h.box) (neA _ _ _ h.box (by decide))))
  · have hlt : l < (W2.setCell ⟨gc, 0, none⟩ (.slice (some ⟨g, 0, none⟩) (k + 1) cap)).heap.size := (Array.getElem?_eq_some_iff.1 hS0).1
    rw [World.putObj_heap_same hlt]
    obtain ⟨st, pe, r1, r2, r3, r4, r5, r6⟩ := rec0
    simp only at hs hp
    subst hs hp
    rfl
  · exact (World.putObj_heap_other hDl).trans ((set2 D hDg).trans (key D _ h.dfr hDl hDa))
  · refine (World.putObj_heap_other hgl).trans (gSet.trans ?_)
    simp
  · have e1 : dlist p dec (upd X k x) (upd Q k q) (upd C k c) (k + 1) = dlist p dec X Q C k ++ [.int .i64 (p.ln (dec k).toNat), .string (nameOf (p.nm (dec k).toNat)), .slice x q c] := by
      rw [dlist_succ, dlist_congr p dec (upd X k x) X (upd Q k q) Q (upd C k c) C k (fun i hi => ⟨upd_ne _ _ _ (by omega), upd_ne _ _ _ (by omega), upd_ne _ _ _ (by omega)⟩)]
      simp [decl3, upd_same]
    rw [e1]
    exact (ho.kept gS (fun g' hg' e => by cases hg'; exact hggc (Option.some.inj e).symm)).kept gP (fun g' hg' e => by cases hg'; exact hgl2 (Option.some.inj e).symm)
  · intro i hi
    by_cases e : i = k
    · subst e
      simp only [upd_same]
      exact kept _ _ hC
    · rw [upd_ne _ _ _ e, upd_ne _ _ _ e, upd_ne _ _ _ e]
      exact kept _ _ (hX i (by omega))
  · intro g' hg'
    cases hg'
    rcases hg with e | e
    · exact ha g (by rw [e]; rfl)
    · exact Nat.le_trans h.bel.size e
end Go.Proofs.Ybulkaqbo
