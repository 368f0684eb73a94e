import Derived.Test.YbulkaqboB10
namespace Go.Proofs.Ybulkaqbo
open Go.RowKit

set_option maxRecDepth 100000 in
theorem decl_any (sb : Nat) (w : World) : Calls Yba.prog 15 #[.pointer (some ⟨sb, 0, none⟩)] w fun e w' => e = .returned (.func (.func 28) #[] #[.pointer (some ⟨w.heap.size, 0, none⟩)]) ∧ w' = w.alloc (.cells #[.pointer (some ⟨sb, 0, none⟩)] 39) := by
  go_enter Yba.func15, Yba.ntmps15
  go_wp2_with fail
  go_ret
  exact ⟨rfl, rfl⟩

theorem answers_calls {f : FuncId} (hf : ∀ args w, (callFunc f args).run Yba.prog w = .ok (.enter f args) w) {caps : Array Value} {arg : Value} {w : World} {R : Value → World → Prop} (h : Calls Yba.prog f (#[arg] ++ caps) w fun e w' => ∃ v, e = .returned v ∧ R v w') : Answers (.func (.func f) #[] caps) arg w R := by
  intro o a K Q ho h14 h30 hK
  refine ⟨fun _ _ => trivial, ?_⟩
  show o.uponIn Fence.wide 0 Yba.prog a K Q ((o.semAt none a.eval).run Yba.prog w)
  have hr : (execOp a.eval o).run Yba.prog w = .ok (.enter f (#[arg] ++ caps)) w := by
    have e14 := evalG h14
    have e30 := evalG h30
    simp [execOp, ho, e14, e30, go_sem, hf]
  rw [Oper.semAt_none, hr, Oper.uponIn_enter]
  refine ⟨fun h => absurd h (by simp [Fence.wide]), (callsIn_wide.2 h).mono fun e w' he => ?_⟩
  obtain ⟨v, rfl, hv⟩ := he
  exact hK v w' hv

set_option maxRecDepth 100000 in
theorem stopYield_any (cc cj : Nat) (k JJ : Nat) (x1 x2 x3 : Value) (w : World) (hc : w.cell? ⟨cc, 0, none⟩ = some (.int .i64 k)) (hf : w.frozen? ⟨cc, 0, none⟩ = false) (hj : w.cell? ⟨cj, 0, none⟩ = some (.int .i64 JJ)) (hne : cc ≠ cj) (hk : k ≤ 1024) :
    Calls Yba.prog 18 #[.agg #[x1, x2, x3], .pointer (some ⟨cc, 0, none⟩), .pointer (some ⟨cj, 0, none⟩)] w fun e w' => e = .returned (.bool (decide (k + 1 < JJ))) ∧ w' = (w.alloc (.cells #[x1, x2, x3] 50)).setCell ⟨cc, 0, none⟩ (.int .i64 (k + 1)) := by
  have bl := below_of_grown (World.grownBy_alloc w (.cells #[x1, x2, x3] 50) none)
  have hc' := cellLater bl hc
  have hj' := cellLater bl hj
  have hlt : cc < w.heap.size := World.block_lt_of_cell? w _ hc
  have hf' : (w.alloc (.cells #[x1, x2, x3] 50)).frozen? ⟨cc, 0, none⟩ = false := by
    rw [World.frozen?, Below.heap_alloc _ _ _ hlt]
    exact hf
  have hj2 : ((w.alloc (.cells #[x1, x2, x3] 50)).setCell ⟨cc, 0, none⟩ (.int .i64 ((k : Int) + 1))).cell? ⟨cj, 0, none⟩ = some (.int .i64 JJ) := (World.cell?_setCell_other _ _ _ _ (fun e => by cases e; exact hne rfl)).trans hj'
  have hc2 : ((w.alloc (.cells #[x1, x2, x3] 50)).setCell ⟨cc, 0, none⟩ (.int .i64 ((k : Int) + 1))).cell? ⟨cc, 0, none⟩ = some (.int .i64 ((k : Int) + 1)) := World.cell?_setCell_same _ _ _ hc'
  clear bl
  go_enter Yba.func18, Yba.ntmps18
  go_upto_region 1 with fail
  generalize hW : w.alloc (.cells #[x1, x2, x3] 50) = W1 at *
  have HW : Hid (w.alloc (.cells #[x1, x2, x3] 50) = W1) := hW
  clear hW
  go_wp2_with fail
  go_ret
  exact ⟨by simp; omega, by rw [HW.out]⟩

theorem call18 (args : Array Value) (w : World) : (callFunc 18 args).run Yba.prog w = .ok (.enter 18 args) w := by simp [go_sem]
end Go.Proofs.Ybulkaqbo
