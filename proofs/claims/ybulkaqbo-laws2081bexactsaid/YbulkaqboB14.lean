import Derived.Test.YbulkaqboB13
import Derived.RangeFuncRecord
import Derived.RangeFuncLeaves
namespace Go.Proofs.Ybulkaqbo
open Go.RowKit

/-- 'for x := range seq { .. }' whose rounds all end normally, in the plain walk. -/
theorem wp_rangeFunc_seq {P : Program} {g : Operand} {ps : Array Tmp} {assign body : Code} {Q : Exit → Act → World → Prop} {a : Act} {w : World} {gf : Nat} {lb : Array Value} (hg : a.eval g = .func (.func gf) #[] lb)
    (eg : ∀ args w, (callFunc gf args).run P w = .ok (.enter gf args) w)
    (h : ∀ fn, Calls P gf (#[.func (.yield (w.heap.size + 1)) #[] #[]] ++ lb) ((w.alloc (.deferred (some []))).alloc (.loop { state := .ready, pending := none, fn, tmps := a.tmps, params := ps, assign, body, defers := w.heap.size }))
      fun e w3 => (∃ v, e = .returned v) ∧ w3.heap[w.heap.size + 1]? = some (.loop { state := .ready, pending := none, fn, tmps := a.tmps, params := ps, assign, body, defers := w.heap.size }) ∧
        Q .normal { a with defers := [{ target := .collected w.heap.size, args := #[] }] ++ a.defers } (w3.putObj (w.heap.size + 1) (.loop { state := .exhausted, pending := none, fn, tmps := a.tmps, params := ps, assign, body, defers := w.heap.size }))) :
    (Code.rangeFunc g ps assign body).wp P Q a w := by
  refine (wpIn_wide (n := 0)).1 (wpIn_rangeFunc ?_)
  intro fn _
  have hcall := h fn
  have hent := run_enterLoop_outer (P := P) (w := w) fn a.tmps ps assign body
  have hres : (resolve a.eval (rangeCall g (w.heap.size + 1)) 0).run P ((w.alloc (.deferred (some []))).alloc (.loop { state := .ready, pending := none, fn, tmps := a.tmps, params := ps, assign, body, defers := w.heap.size })) = .ok { target := .fn (.func gf) lb, args := #[.func (.yield (w.heap.size + 1)) #[] #[]] } ((w.alloc (.deferred (some []))).alloc (.loop { state := .ready, pending := none, fn, tmps := a.tmps, params := ps, assign, body, defers := w.heap.size })) := by
    simp only [resolve, hg]
    simp [go_sem]
  generalize ((w.alloc (.deferred (some []))).alloc (.loop { state := .ready, pending := none, fn, tmps := a.tmps, params := ps, assign, body, defers := w.heap.size })) = W1 at *
  have hinv : (invoke (.fn (.func gf) lb) #[.func (.yield (w.heap.size + 1)) #[] #[]]).run P W1 = .ok (.enter gf (#[.func (.yield (w.heap.size + 1)) #[] #[]] ++ lb)) W1 := by simp [invoke, go_sem, eg]
  have hfin : CallsIn Fence.wide (0 - 1) P gf (#[.func (.yield (w.heap.size + 1)) #[] #[]] ++ lb) W1 (rangePost Fence.wide 0 P (w.heap.size + 1) Q { a with defers := [{ target := .collected w.heap.size, args := #[] }] ++ a.defers }) := by
    refine callsIn_wide.2 (hcall.mono ?_)
    rintro e w3 ⟨⟨v, rfl⟩, hl, hQ⟩
    have hend := run_endLoop (P := P) hl (by simp)
    exact ⟨none, _, hend, hQ⟩
  exact ⟨_, _, _, _, _, _, _, _, hent, hres, fun _ _ => trivial, hinv, fun h => absurd h (by simp [Fence.wide]), hfin⟩

/-- A call of yield whose round ends normally. -/
theorem answers_round {l : Nat} {rec0 : Loop} {w : World} {arg : Value} {R : Value → World → Prop} (hl : w.heap[l]? = some (.loop rec0)) (hs : rec0.state = .ready) (hp : rec0.params = #[30])
    (h : rec0.assign.wpIn (Fence.wide.inRound l) 0 Yba.prog (Exit.then (fun a₁ w₁ => w₁.heap[l]? = some (.loop rec0) ∧
      rec0.body.wpIn (Fence.wide.inRound l) 0 Yba.prog (fun e _ w3 => e = .normal ∧ w3.heap[l]? = some (.loop { rec0 with state := .busy }) ∧ R (.bool true) (w3.putObj l (.loop { rec0 with state := .ready, pending := none }))) a₁ (w₁.putObj l (.loop { rec0 with state := .busy })))
      (fun _ _ _ => False)) { tmps := rec0.tmps.setIfInBounds 30 arg, defers := [] } w) : Answers (.func (.yield l) #[] #[]) arg w R := by
  intro o a K Q ho h14 h30 hK
  refine ⟨fun _ _ => trivial, ?_⟩
  show o.uponIn Fence.wide 0 Yba.prog a K Q ((o.semAt none a.eval).run Yba.prog w)
  have hy := run_yield (P := Yba.prog) (args := #[arg]) hl (by rw [hp]; rfl)
  have hr : (execOp a.eval o).run Yba.prog w = .ok (.round l rec0.fn (rec0.tmps.setIfInBounds 30 arg) rec0.assign rec0.body) w := by
    have e14 := evalG h14
    have e30 := evalG h30
    rw [hp] at hy
    simp [execOp, ho, e14, e30, go_sem]
    simpa using hy
  rw [Oper.semAt_none, hr, Oper.uponIn_round]
  refine ⟨fun h => absurd h (by simp [Fence.wide]), roundIn_of_wpIn trivial (wpIn_mono h ?_)⟩
  intro e a1 w1 he
  cases e with
  | normal =>
    obtain ⟨h1, h2⟩ := he
    refine ⟨_, run_beginRound h1 hs, wpIn_mono h2 ?_⟩
    rintro e a2 w3 ⟨rfl, h3, h4⟩
    exact ⟨_, _, run_endRound none h3, hK _ _ h4⟩
  | _ => exact he
end Go.Proofs.Ybulkaqbo
