import Derived.Test.YbulkaqboB17
namespace Go.Proofs.Ybulkaqbo
open Go.RowKit

theorem call28 (args : Array Value) (w : World) : (callFunc 28 args).run Yba.prog w = .ok (.enter 28 args) w := by simp [go_sem]

theorem ex_start (Wb : World) (sb n : Nat) (rec0 : Loop) (p : Procs) (dec : Nat → Int) : ExJ Wb sb Wb.heap.size (Wb.heap.size + 1) (Wb.heap.size + 1 + 1) (Wb.heap.size + 1 + 1 + 1) rec0 n p dec 0
    ((((Wb.alloc (.cells #[.slice none 0 0] 42)).alloc (.cells #[.pointer (some ⟨sb, 0, none⟩)] 39)).alloc (.deferred (some []))).alloc (.loop rec0)) := by
  generalize hA : Wb.alloc (.cells #[.slice none 0 0] 42) = WA
  generalize hB : WA.alloc (.cells #[.pointer (some ⟨sb, 0, none⟩)] 39) = WB
  generalize hC : WB.alloc (.deferred (some [])) = WC
  have sA : WA.heap.size = Wb.heap.size + 1 := by rw [← hA]; simp
  have sB : WB.heap.size = Wb.heap.size + 1 + 1 := by rw [← hB]; simp [sA]
  have sC : WC.heap.size = Wb.heap.size + 1 + 1 + 1 := by rw [← hC]; simp [sB]
  have r1 : WA.heap[Wb.heap.size]? = some (.cells #[.slice none 0 0] 42) := by rw [← hA]; exact heap_alloc_new _ _
  have r2 : WB.heap[Wb.heap.size + 1]? = some (.cells #[.pointer (some ⟨sb, 0, none⟩)] 39) := by rw [← hB, ← sA]; exact heap_alloc_new _ _
  have r3 : WC.heap[Wb.heap.size + 1 + 1]? = some (.deferred (some [])) := by rw [← hC, ← sB]; exact World.alloc_heap_new _ _
  have r4 : (WC.alloc (.loop rec0)).heap[Wb.heap.size + 1 + 1 + 1]? = some (.loop rec0) := by rw [← sC]; exact World.alloc_heap_new _ _
  have g0 : Wb.grownBy WA none := by rw [← hA]; exact World.grownBy_alloc _ _ _
  have g1 : WA.grownBy WB none := by rw [← hB]; exact World.grownBy_alloc _ _ _
  have g2 : WB.grownBy WC none := by rw [← hC]; exact World.grownBy_alloc _ _ _
  have g3 : WC.grownBy (WC.alloc (.loop rec0)) none := World.grownBy_alloc _ _ _
  have q1 := (g3.block _ (by omega) (by simp)).trans ((g2.block _ (by omega) (by simp)).trans ((g1.block _ (by omega) (by simp)).trans r1))
  have q2 := (g3.block _ (by omega) (by simp)).trans ((g2.block _ (by omega) (by simp)).trans r2)
  have q3 := (g3.block _ (by omega) (by simp)).trans r3
  refine ⟨?_, q2, r4, q3, none, 0, fun _ => none, fun _ => 0, fun _ => 0, q1, Own.nil _ _ _, fun i hi => by omega, fun g hg => by cases hg⟩
  exact ((((Below.refl _ Wb).grown g0 (Nat.le_refl _) (by simp)).grown g1 (by omega) (by simp)).grown g2 (by omega) (by simp)).grown g3 (by omega) (by simp)

theorem ex_loop {Wb : World} {sb gb : Nat} {b : Nat → Nat} {n m : Nat} {p : Procs} {dec : Nat → Int} {A : Nat → Option Addr} {C : Nat → Nat} {ad : Option Addr} {cd : Nat} {rec0 : Loop} (hS : Snap Wb sb gb b n m p dec A C ad cd)
    (hn : n ≤ 1024) (hm : m ≤ 1024) (hLs : ∀ i, i < n → p.tl i ≤ 1024) (hnd : ∀ i, 0 ≤ p.nd i ∧ p.nd i ≤ 255) (hs : rec0.state = .ready) (hpr : rec0.params = #[30])
    (hround : ∀ k w x q c, k < m → ExJ Wb sb Wb.heap.size (Wb.heap.size + 1) (Wb.heap.size + 1 + 1) (Wb.heap.size + 1 + 1 + 1) rec0 n p dec k w → CondOk w n p (dec k).toNat (.agg #[.slice x q c]) →
      rec0.assign.wpIn (Fence.wide.inRound (Wb.heap.size + 1 + 1 + 1)) 0 Yba.prog (Exit.then (fun a₁ w₁ => w₁.heap[Wb.heap.size + 1 + 1 + 1]? = some (.loop rec0) ∧
      rec0.body.wpIn (Fence.wide.inRound (Wb.heap.size + 1 + 1 + 1)) 0 Yba.prog (fun e _ w3 => e = .normal ∧ w3.heap[Wb.heap.size + 1 + 1 + 1]? = some (.loop { rec0 with state := .busy }) ∧ (∃ c', Value.bool true = .bool c' ∧ c' = true ∧ ExJ Wb sb Wb.heap.size (Wb.heap.size + 1) (Wb.heap.size + 1 + 1) (Wb.heap.size + 1 + 1 + 1) rec0 n p dec (k + 1) (w3.putObj (Wb.heap.size + 1 + 1 + 1) (.loop { rec0 with state := .ready, pending := none })))) a₁ (w₁.putObj (Wb.heap.size + 1 + 1 + 1) (.loop { rec0 with state := .busy })))
      (fun _ _ _ => False)) { tmps := rec0.tmps.setIfInBounds 30 (.agg #[.int .i64 (p.ln (dec k).toNat), .string (nameOf (p.nm (dec k).toNat)), .slice x q c]), defers := [] } w) :
    Calls Yba.prog 28 (#[.func (.yield (Wb.heap.size + 1 + 1 + 1)) #[] #[]] ++ #[.pointer (some ⟨Wb.heap.size + 1, 0, none⟩)])
      ((((Wb.alloc (.cells #[.slice none 0 0] 42)).alloc (.cells #[.pointer (some ⟨sb, 0, none⟩)] 39)).alloc (.deferred (some []))).alloc (.loop rec0))
      fun e w3 => (∃ v, e = .returned v) ∧ ExJ Wb sb Wb.heap.size (Wb.heap.size + 1) (Wb.heap.size + 1 + 1) (Wb.heap.size + 1 + 1 + 1) rec0 n p dec m w3 := by
  refine decl_seq (sb := sb) (gb := gb) (b := b) (n := n) (m := m) (p := p) (dec := dec) (A := A) (C := C) (ad := ad) (cd := cd) _ (Wb.heap.size + 1) (fun k c w => c = true ∧ ExJ Wb sb Wb.heap.size (Wb.heap.size + 1) (Wb.heap.size + 1 + 1) (Wb.heap.size + 1 + 1 + 1) rec0 n p dec k w) _
    (fun k c w h => (cellAt h.2.box 0).trans rfl) (fun k c w h => hS.later h.2.bel) (fun k c w w' h hg => ⟨h.1, h.2.grow hg⟩) ?_ (fun w h => ⟨⟨_, rfl⟩, h.2⟩) (fun k w h => by cases h.1) ⟨rfl, ex_start Wb sb n rec0 p dec⟩ hn hm hLs hnd
  intro k w x q c hk hJ hC
  exact answers_round hJ.2.lp hs hpr (hround k w x q c hk hJ.2 hC)
end Go.Proofs.Ybulkaqbo
