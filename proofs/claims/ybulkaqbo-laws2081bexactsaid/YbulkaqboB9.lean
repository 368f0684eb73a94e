import Derived.Test.YbulkaqboB8
import Derived.OrdersIn
namespace Go.Proofs.Ybulkaqbo
open Go.RowKit

/-- A region that draws its order, by an invariant over what has come up: each operation is looked at once, in whatever state it may come up. -/
theorem wpAnyIn_inv {F : Fence} {n : Nat} {P : Program} {ops : Array Oper} {Q : Exit → Act → World → Prop} {md : Region.Mode} (I : Array Bool → Act → World → Prop)
    (hsz : ∀ l a w, I l a w → l.size = ops.size) (hfwd : ∀ (i : Nat) (o : Oper), ops[i]? = some o → ∀ e ∈ o.after, e.on < i)
    (hend : ∀ l a w, I l a w → (∀ i, i < ops.size → l.getD i true = true) → Q .normal a w)
    (hstep : ∀ l a w i o, I l a w → ops[i]? = some o → l.getD i true = false → (∀ e ∈ o.after, Region.binds md e = true → l.getD e.on false = true) → wpOpIn F n P ops Q i (fun a' w' => I (l.setIfInBounds i true) a' w') a w) :
    ∀ fuel l a w, I l a w → l.toList.countP (fun b => !b) ≤ fuel → wpAnyIn F n P md ops Q fuel l a w := by
  have hall : ∀ l a w, I l a w → Region.ready md ops l = [] → ∀ i, i < ops.size → l.getD i true = true := by
    intro l a w hI hr i
    induction i using Nat.strongRecOn with
    | ind i ih =>
      intro hi
      cases hb : l.getD i true with
      | true => rfl
      | false =>
        have hm : i ∈ Region.ready md ops l := by
          refine mem_ready.2 ⟨hb, ops[i], Array.getElem?_eq_getElem hi, fun e he _ => ?_⟩
          have hlt := hfwd i _ (Array.getElem?_eq_getElem hi) e he
          have h1 := ih e.on hlt (by omega)
          have hls := hsz l a w hI
          have hx : e.on < l.size := by omega
          rw [Array.getD_eq_getD_getElem?, Array.getElem?_eq_getElem hx] at h1 ⊢
          simpa using h1
        rw [hr] at hm
        cases hm
  intro fuel
  induction fuel with
  | zero =>
    intro l a w hI hc
    have h0 : ∀ b ∈ l.toList, b = true := by
      have := List.countP_eq_zero.1 (Nat.le_zero.1 hc)
      intro b hb
      simpa using this b hb
    have hT : ∀ i, l.getD i true = true := by
      intro i
      by_cases hi : i < l.size
      · rw [Array.getD_eq_getD_getElem?, Array.getElem?_eq_getElem hi]
        exact h0 _ (by simp)
      · rw [Array.getD_eq_getD_getElem?, Array.getElem?_eq_none (by omega)]
        rfl
    refine ⟨?_, hend l a w hI (fun i _ => hT i)⟩
    cases hr : Region.ready md ops l with
    | nil => rfl
    | cons x xs =>
      have hx : x ∈ Region.ready md ops l := by rw [hr]; simp
      have := (mem_ready.1 hx).1
      rw [hT x] at this
      cases this
  | succ fuel ih =>
    intro l a w hI hc
    refine ⟨fun hr => hend l a w hI (hall l a w hI hr), fun i hi => ?_⟩
    obtain ⟨hb, o, ho, hd⟩ := mem_ready.1 hi
    refine wpOpIn_mono (fun a' w' h => ih _ a' w' h ?_) (hstep l a w i o hI ho hb hd)
    have hlt : i < l.size := by rw [hsz l a w hI]; exact (Array.getElem?_eq_some_iff.1 ho).1
    have hli : l[i] = false := by
      rw [Array.getD_eq_getD_getElem?, Array.getElem?_eq_getElem hlt] at hb
      simpa using hb
    have hpos : 0 < l.toList.countP (fun b => !b) := List.countP_pos_iff.2 ⟨l[i], by simp, by simp [hli]⟩
    rw [Array.toList_setIfInBounds, List.countP_set (by simpa using hlt)]
    have e1 : l.toList[i]'(by simpa using hlt) = false := by simpa using hli
    rw [e1]
    simp only [Bool.not_false, Bool.not_true, if_true, Bool.false_eq_true, if_false]
    omega

theorem wpAnyIn_from {F : Fence} {n : Nat} {P : Program} {ops : Array Oper} {Q : Exit → Act → World → Prop} {md : Region.Mode} {a0 : Act} {w0 : World} (I : Act → Array Bool → Act → World → Prop)
    (hsz : ∀ l a w, I a0 l a w → l.size = ops.size) (hfwd : ∀ (i : Nat) (o : Oper), ops[i]? = some o → ∀ e ∈ o.after, e.on < i)
    (hend : ∀ l a w, I a0 l a w → (∀ i, i < ops.size → l.getD i true = true) → Q .normal a w)
    (hstep : ∀ l a w i o, I a0 l a w → ops[i]? = some o → l.getD i true = false → (∀ e ∈ o.after, Region.binds md e = true → l.getD e.on false = true) → wpOpIn F n P ops Q i (fun a' w' => I a0 (l.setIfInBounds i true) a' w') a w)
    (h0 : I a0 (Array.replicate ops.size false) a0 w0) : wpAnyIn F n P md ops Q ops.size (Array.replicate ops.size false) a0 w0 :=
  wpAnyIn_inv (I a0) hsz hfwd hend hstep _ _ _ _ h0 (Nat.le_trans List.countP_le_length (by simp))
end Go.Proofs.Ybulkaqbo
