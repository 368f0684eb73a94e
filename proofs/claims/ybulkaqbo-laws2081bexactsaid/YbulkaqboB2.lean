import Derived.Test.YbulkaqboB1
namespace Go.Proofs.Ybulkaqbo
open Go.RowKit

/-! ### What the build computes: no Go in sight -/
/-- How many of the first k processes wait. -/
def cw (p : Procs) : Nat → Nat
  | 0 => 0
  | k + 1 => cw p k + if p.wt k then 1 else 0
/-- The targets of process i, as numbers of processes. -/
def tg (p : Procs) (n i : Nat) : Nat → List Int
  | 0 => []
  | q + 1 => tg p n i q ++ [p.td i q % n]
def tgs (p : Procs) (n : Nat) : Nat → List Int
  | 0 => []
  | k + 1 => if p.wt k then tgs p n k ++ tg p n k (p.tl k) else tgs p n k
def nds (p : Procs) : Nat → List Int
  | 0 => []
  | k + 1 => if p.wt k then nds p k ++ [p.nd k] else nds p k
def ows (p : Procs) : Nat → List Int
  | 0 => []
  | k + 1 => if p.wt k then ows p k ++ [(k : Int)] else ows p k
def fns (p : Procs) (n : Nat) : Nat → List Int
  | 0 => [0]
  | k + 1 => if p.wt k then fns p n k ++ [((tgs p n (k + 1)).length : Int)] else fns p n k
def fgv (p : Procs) (i : Nat) : Int := if p.wt i then cw p i else 0
def egv (p : Procs) (i : Nat) : Int := if p.wt i then cw p i + 1 else 0

theorem cw_le (p : Procs) (k : Nat) : cw p k ≤ k := by
  induction k with
  | zero => simp [cw]
  | succ k ih => simp only [cw]; split <;> omega
theorem tg_length (p : Procs) (n i q : Nat) : (tg p n i q).length = q := by
  induction q with
  | zero => rfl
  | succ q ih => simp [tg, ih]
theorem tgs_length_le (p : Procs) (n : Nat) (hL : ∀ i, i < n → p.tl i ≤ 1024) (k : Nat) (hk : k ≤ n) : (tgs p n k).length ≤ 1024 * k := by
  induction k with
  | zero => simp [tgs]
  | succ k ih =>
    have := ih (by omega)
    have := hL k (by omega)
    simp only [tgs]
    split
    · rw [List.length_append, tg_length]; omega
    · omega
theorem nds_length (p : Procs) (k : Nat) : (nds p k).length = cw p k := by
  induction k with
  | zero => rfl
  | succ k ih => simp only [nds, cw]; split <;> simp [ih]
theorem ows_length (p : Procs) (k : Nat) : (ows p k).length = cw p k := by
  induction k with
  | zero => rfl
  | succ k ih => simp only [ows, cw]; split <;> simp [ih]
theorem fns_length (p : Procs) (n k : Nat) : (fns p n k).length = cw p k + 1 := by
  induction k with
  | zero => rfl
  | succ k ih => simp only [fns, cw]; split <;> simp [ih]

theorem cw_mono (p : Procs) (i j : Nat) (h : i ≤ j) : cw p i ≤ cw p j := by
  induction j with
  | zero => obtain rfl : i = 0 := by omega
            exact Nat.le_refl _
  | succ j ih =>
    by_cases e : i = j + 1
    · subst e; exact Nat.le_refl _
    · have := ih (by omega); simp only [cw]; omega

theorem nds_at (p : Procs) (i k : Nat) (hi : i < k) (hw : p.wt i = true) : (nds p k).getD (cw p i) 0 = p.nd i := by
  induction k with
  | zero => omega
  | succ k ih =>
    by_cases e : i = k
    · subst e
      simp only [nds, hw, if_true]
      have := nds_length p i
      simp [← this]
    · have h1 := ih (by omega)
      have h2 : cw p i < cw p k := by
        have := cw_mono p (i + 1) k (by omega)
        simp only [cw, hw, if_true] at this
        omega
      simp only [nds]
      split
      · rw [← h1]
        have := nds_length p k
        simp [List.getElem?_append_left (show cw p i < (nds p k).length by omega)]
      · exact h1

theorem getD_left (xs ys : List Int) (i : Nat) (h : i < xs.length) : (xs ++ ys).getD i 0 = xs.getD i 0 := by
  simp [List.getElem?_append_left h]
theorem getD_right (xs ys : List Int) (i : Nat) : (xs ++ ys).getD (xs.length + i) 0 = ys.getD i 0 := by
  simp [List.getElem?_append_right (show xs.length ≤ xs.length + i by omega)]

theorem fns_at (p : Procs) (n i k : Nat) (hi : i ≤ k) : (fns p n k).getD (cw p i) 0 = (tgs p n i).length := by
  induction k with
  | zero =>
    obtain rfl : i = 0 := by omega
    rfl
  | succ k ih =>
    have hl := fns_length p n k
    by_cases e : i = k + 1
    · subst e
      by_cases hw : p.wt k = true
      · simp only [fns, hw, if_true, cw]
        have := getD_right (fns p n k) [((tgs p n (k + 1)).length : Int)] 0
        rw [hl] at this
        simpa using this
      · have hf : p.wt k = false := by simpa using hw
        simp only [fns, hf, cw, tgs]
        simp only [Bool.false_eq_true, if_false, Nat.add_zero]
        clear ih
        have key : ∀ q, (fns p n q).getD (cw p q) 0 = (tgs p n q).length := by
          intro q
          induction q with
          | zero => rfl
          | succ q ihq =>
            by_cases hw : p.wt q = true
            · simp only [fns, hw, if_true, cw]
              have := getD_right (fns p n q) [((tgs p n (q + 1)).length : Int)] 0
              rw [fns_length] at this
              simpa using this
            · have hf : p.wt q = false := by simpa using hw
              simp only [fns, hf, cw, tgs]
              simpa using ihq
        exact key k
    · have h1 := ih (by omega)
      have h2 := cw_mono p i k (by omega)
      simp only [fns]
      split
      · rw [getD_left _ _ _ (by omega)]
        exact h1
      · exact h1

theorem fns_next (p : Procs) (n i k : Nat) (hi : i < k) (hw : p.wt i = true) : (fns p n k).getD (cw p i + 1) 0 = (tgs p n i).length + p.tl i := by
  have h := fns_at p n (i + 1) k (by omega)
  have e : cw p (i + 1) = cw p i + 1 := by simp [cw, hw]
  rw [e] at h
  rw [h]
  simp [tgs, hw, tg_length]

theorem tg_get (p : Procs) (n i q j : Nat) (hj : j < q) : (tg p n i q).getD j 0 = p.td i j % n := by
  induction q with
  | zero => omega
  | succ q ih =>
    simp only [tg]
    by_cases e : j = q
    · subst e
      have := getD_right (tg p n i j) [p.td i j % n] 0
      rw [tg_length] at this
      simpa using this
    · rw [getD_left _ _ _ (by rw [tg_length]; omega)]
      exact ih (by omega)

theorem tgs_at (p : Procs) (n i k j : Nat) (hi : i < k) (hw : p.wt i = true) (hj : j < p.tl i) : (tgs p n k).getD ((tgs p n i).length + j) 0 = p.td i j % n := by
  induction k with
  | zero => omega
  | succ k ih =>
    by_cases e : i = k
    · subst e
      simp only [tgs, hw, if_true]
      rw [getD_right]
      exact tg_get p n i _ j hj
    · have h1 := ih (by omega)
      have h2 : (tgs p n i).length + j < (tgs p n k).length := by
        have key : ∀ q, i < q → (tgs p n i).length + p.tl i ≤ (tgs p n q).length := by
          intro q hq
          induction q with
          | zero => omega
          | succ q ihq =>
            by_cases e' : i = q
            · subst e'
              simp only [tgs, hw, if_true]
              rw [List.length_append, tg_length]
              exact Nat.le_refl _
            · have := ihq (by omega)
              simp only [tgs]
              split
              · rw [List.length_append]; omega
              · exact this
        have := key k (by omega)
        omega
      simp only [tgs]
      split
      · rw [getD_left _ _ _ h2]
        exact h1
      · exact h1

end Go.Proofs.Ybulkaqbo
