import Derived.Test.YbulkaqboB18
namespace Go.Proofs.Ybulkaqbo
open Go.RowKit

/-- Behind the range statement. -/
structure ExD (Wb : World) (gc D : Nat) (n : Nat) (p : Procs) (dec : Nat → Int) (m : Nat) (ag : Option Addr) (cg : Nat) (X : Nat → Option Addr) (Q C : Nat → Nat) (w : World) : Prop where
  bel : Below Wb.heap.size Wb w
  dfr : w.heap[D]? = some (.deferred (some []))
  gotC : w.cell? ⟨gc, 0, none⟩ = some (.slice ag m cg)
  own : Own w 50 3 ag m cg (dlist p dec X Q C m)
  cond : ∀ i, i < m → CondOk w n p (dec i).toNat (.agg #[.slice (X i) (Q i) (C i)])

theorem ExJ.done {Wb w : World} {sb gc cb D l n m : Nat} {rec0 : Loop} {p : Procs} {dec : Nat → Int} (h : ExJ Wb sb gc cb D l rec0 n p dec m w) (hll : Wb.heap.size ≤ l) (o : Obj) : ∃ ag cg X Q C, ExD Wb gc D n p dec m ag cg X Q C (w.putObj l o) := by
  obtain ⟨a, c, X, Q, C, hgc, hown, hX, ha⟩ := h.got
  have neL : ∀ (g' : Nat) (k' : Array Value) (t : TypeId), w.heap[g']? = some (.cells k' t (0, 0)) → g' ≠ l := by
    intro g' k' t hg' e
    subst e
    rw [h.lp] at hg'
    cases hg'
  have gP := putObj_grown w l o
  have hDl : D ≠ l := by
    intro e
    have h1 := h.dfr
    rw [e, h.lp] at h1
    cases h1
  refine ⟨a, c, X, Q, C, h.bel.grown gP h.bel.size (fun j e => by cases e; exact hll), (World.putObj_heap_other hDl).trans h.dfr, ?_, ?_, ?_⟩
  · exact (cellAt ((World.putObj_heap_other (neL _ _ _ hgc)).trans hgc) 0).trans rfl
  · refine hown.kept gP (fun g hg e => ?_)
    rcases hown.shape with ⟨h0, _⟩ | ⟨g', cur, he, hh, _⟩
    · rw [h0] at hg; cases hg
    · rw [he] at hg
      have e1 : g' = g := Option.some.inj hg
      subst e1
      exact neL _ _ _ hh (Option.some.inj e).symm
  · intro i hi
    exact (hX i hi).kept gP (fun g' k' t e hg' => absurd (Option.some.inj e).symm (neL _ _ _ hg'))

theorem ExD.grow {Wb w w' : World} {gc D n m : Nat} {p : Procs} {dec : Nat → Int} {ag : Option Addr} {cg : Nat} {X : Nat → Option Addr} {Q C : Nat → Nat} (h : ExD Wb gc D n p dec m ag cg X Q C w) (hg : w.grownBy w' none) : ExD Wb gc D n p dec m ag cg X Q C w' :=
  ⟨h.bel.grown hg h.bel.size (by simp), (hg.block D (Array.getElem?_eq_some_iff.1 h.dfr).1 (by simp)).trans h.dfr, cellLater (below_of_grown hg) h.gotC, h.own.kept hg (by simp), fun i hi => (h.cond i hi).below (below_of_grown hg)⟩

theorem dlist_at (p : Procs) (dec : Nat → Int) (X : Nat → Option Addr) (Q C : Nat → Nat) (m i : Nat) (hi : i < m) :
    (dlist p dec X Q C m)[i * 3]? = some (.int .i64 (p.ln (dec i).toNat)) ∧ (dlist p dec X Q C m)[i * 3 + 1]? = some (.string (nameOf (p.nm (dec i).toNat))) ∧ (dlist p dec X Q C m)[i * 3 + 2]? = some (.slice (X i) (Q i) (C i)) := by
  induction m with
  | zero => omega
  | succ m ih =>
    have hl := dlist_length p dec X Q C m
    rw [dlist_succ]
    by_cases e : i = m
    · subst e
      refine ⟨?_, ?_, ?_⟩
      · rw [List.getElem?_append_right (by omega), hl]; simp [decl3]
      · rw [List.getElem?_append_right (by omega), hl]; simp [decl3]
      · rw [List.getElem?_append_right (by omega), hl]; simp [decl3]
    · obtain ⟨h1, h2, h3⟩ := ih (by omega)
      exact ⟨by rw [List.getElem?_append_left (by omega)]; exact h1, by rw [List.getElem?_append_left (by omega)]; exact h2, by rw [List.getElem?_append_left (by omega)]; exact h3⟩

/-- The i-th declaration of got. -/
theorem ExD.at {Wb w : World} {gc D n m : Nat} {p : Procs} {dec : Nat → Int} {ag : Option Addr} {cg : Nat} {X : Nat → Option Addr} {Q C : Nat → Nat} (h : ExD Wb gc D n p dec m ag cg X Q C w) {i : Nat} (hi : i < m) :
    ∃ g, ag = some ⟨g, 0, none⟩ ∧ w.cell? ⟨g, i * 3, none⟩ = some (.int .i64 (p.ln (dec i).toNat)) ∧ w.cell? ⟨g, i * 3 + 1, none⟩ = some (.string (nameOf (p.nm (dec i).toNat))) ∧ w.cell? ⟨g, i * 3 + 2, none⟩ = some (.slice (X i) (Q i) (C i)) := by
  have hd := dlist_at p dec X Q C m i hi
  have ho := h.own
  rcases ho.shape with ⟨_, h0, _⟩ | ⟨g, cur, rfl, _⟩
  · omega
  · exact ⟨g, rfl, ho.cell hd.1, ho.cell hd.2.1, ho.cell hd.2.2⟩
end Go.Proofs.Ybulkaqbo
