import Derived.Test.YbulkaqboB16
namespace Go.Proofs.Ybulkaqbo
open Go.RowKit

theorem ex_round {Wb w : World} {sb gc cb D l n k : Nat} {rec0 : Loop} {p : Procs} {dec : Nat → Int} {x : Option Addr} {q c : Nat} (hJ : ExJ Wb sb gc cb D l rec0 n p dec k w) (hC : CondOk w n p (dec k).toNat (.agg #[.slice x q c])) (hk : k < 1024)
    (hlg : Wb.heap.size ≤ gc) (hll : Wb.heap.size ≤ l) (hs : rec0.state = .ready) (hp : rec0.pending = none) (ht : rec0.tmps.size = 113) (h8 : rec0.tmps.getD 8 undef = .pointer (some ⟨gc, 0, none⟩))
    {i1 i2 i3 : Nat} {o1 o2 o3 o4 o5 o6 o7 : Oper}
    (g1 : o1.guard = none) (p1 : o1.op = .alloc 50) (d1 : o1.dst = some 9) (g2 : o2.guard = none) (p2 : o2.op = .store 50 (.tmp 9) (.tmp 30)) (d2 : o2.dst = none)
    (g3 : o3.guard = none) (p3 : o3.op = .load 42 (.tmp 8)) (d3 : o3.dst = some 31) (g4 : o4.guard = none) (p4 : o4.op = .load 50 (.tmp 9)) (d4 : o4.dst = some 32)
    (g5 : o5.guard = none) (p5 : o5.op = .buildSlice 42 1 #[(0, .tmp 32)]) (d5 : o5.dst = some 33) (g6 : o6.guard = none) (p6 : o6.op = .call { callee := .builtin .append, args := #[.tmp 31, .tmp 33], argTypes := #[42, 42] }) (d6 : o6.dst = some 34)
    (g7 : o7.guard = none) (p7 : o7.op = .store 42 (.tmp 8) (.tmp 34)) :
    (Code.region i1 #[o1, o2] false).wpIn (Fence.wide.inRound l) 0 Yba.prog (Exit.then (fun a₁ w₁ => w₁.heap[l]? = some (.loop rec0) ∧
      (Code.block i2 (Code.region i3 #[o3, o4, o5, o6, o7] false)).wpIn (Fence.wide.inRound l) 0 Yba.prog (fun e _ w3 => e = .normal ∧ w3.heap[l]? = some (.loop { rec0 with state := .busy }) ∧ (∃ c', Value.bool true = .bool c' ∧ c' = true ∧ ExJ Wb sb gc cb D l rec0 n p dec (k + 1) (w3.putObj l (.loop { rec0 with state := .ready, pending := none })))) a₁ (w₁.putObj l (.loop { rec0 with state := .busy })))
      (fun _ _ _ => False)) { tmps := rec0.tmps.setIfInBounds 30 (.agg #[.int .i64 (p.ln (dec k).toNat), .string (nameOf (p.nm (dec k).toNat)), .slice x q c]), defers := [] } w := by
  obtain ⟨i50, h500, h501, h502, h503⟩ := info_parts Yba.info50
  obtain ⟨a, c0, X, Qn, Cn, hgc, hown, hX, ha⟩ := hJ.got
  generalize eL : p.ln (dec k).toNat = L at *
  generalize eS : nameOf (p.nm (dec k).toNat) = S at *
  -- the frame
  obtain ⟨T, hT⟩ : ∃ T : Act, T = { tmps := rec0.tmps.setIfInBounds 30 (.agg #[.int .i64 L, .string S, .slice x q c]), defers := [] } := ⟨_, rfl⟩
  have T8 : T.eval (.tmp 8) = .pointer (some ⟨gc, 0, none⟩) := by
    rw [hT, ← h8]
    simp [Act.eval, Array.getD_eq_getD_getElem?]
  have T30 : T.eval (.tmp 30) = .agg #[.int .i64 L, .string S, .slice x q c] := by
    rw [hT]
    simp [Act.eval, Array.getD_eq_getD_getElem?, ht]
  have Ts : T.tmps.size = 113 := by rw [hT]; simp [ht]
  rw [← hT]
  clear hT
  -- assign
  refine wpIn_region_list ?_
  show wpListIn _ _ _ _ _ [o1, o2] _ _
  refine wpListIn_run g1 (by rw [p1]; simp) (op_alloc _ _ _ p1) ?_
  rw [d1]
  have hz := heap_alloc_new w (.cells #[.int .i64 0, .string ByteArray.empty, .slice none 0 0] 50)
  refine wpListIn_skips g2 (by rw [p2]; simp) (op_store _ _ _ w.heap.size L S x q c _ _ _ p2 (eval_put_eq _ _ _ (by rw [Ts]; omega)) ((eval_put_ne _ _ _ _ (by omega)).trans T30) hz) ?_
  rw [d2]
  have z1 := heap_setCell_at _ _ 0 (.int .i64 L) _ _ hz
  have z2 := heap_setCell_at _ _ 1 (.string S) _ _ z1
  have z3 := heap_setCell_at _ _ 2 (.slice x q c) _ _ z2
  have gA := World.grownBy_alloc w (.cells #[.int .i64 0, .string ByteArray.empty, .slice none 0 0] 50) none
  have gB : w.grownBy _ none := grownBy_then gA (grownBy_setCell _ ⟨w.heap.size, 0, none⟩ (.int .i64 L)) (by simp) (by simp)
  have gC : w.grownBy _ none := grownBy_then gB (grownBy_setCell _ ⟨w.heap.size, 1, none⟩ (.string S)) (by simp) (by simp)
  have gD : w.grownBy _ none := grownBy_then gC (grownBy_setCell _ ⟨w.heap.size, 2, none⟩ (.slice x q c)) (by simp) (by simp)
  generalize ((((w.alloc (.cells #[.int .i64 0, .string ByteArray.empty, .slice none 0 0] 50)).setCell ⟨w.heap.size, 0, none⟩ (.int .i64 L)).setCell ⟨w.heap.size, 1, none⟩ (.string S)).setCell ⟨w.heap.size, 2, none⟩ (.slice x q c)) = w1 at *
  have z4 : w1.heap[w.heap.size]? = some (.cells #[.int .i64 L, .string S, .slice x q c] 50) := z3
  clear z1 z2 z3 gA gB gC hz
  have hJ1 := hJ.grow gD
  refine wpListIn_nil ?_
  refine ⟨hJ1.lp, ?_⟩
  have hlt : l < w1.heap.size := (Array.getElem?_eq_some_iff.1 hJ1.lp).1
  have hgl : w.heap.size ≠ l := by
    intro e
    rw [e, hJ1.lp] at z4
    cases z4
  have l2 : (w1.putObj l (.loop { rec0 with state := .busy })).heap[l]? = some (.loop { rec0 with state := .busy }) := World.putObj_heap_same hlt
  have oth : ∀ (g : Nat) (ob : Obj), w1.heap[g]? = some ob → g ≠ l → (w1.putObj l (.loop { rec0 with state := .busy })).heap[g]? = some ob := fun g ob ho hne => (World.putObj_heap_other hne).trans ho
  have z5 := oth _ _ z4 hgl
  have gc1 : w1.heap[gc]? = some (.cells #[.slice a k c0] 42) := (gD.block gc (Array.getElem?_eq_some_iff.1 hgc).1 (by simp)).trans hgc
  have hgcl : gc ≠ l := by
    intro e
    rw [e, hJ1.lp] at gc1
    cases gc1
  have gc2 := oth _ _ gc1 hgcl
  have hown1 := hown.kept gD (by simp)
  have neA : ∀ g, blk a = some g → g ≠ l := by
    intro g hg e
    rcases hown1.shape with ⟨h0, _⟩ | ⟨g', cur, he, hh, _⟩
    · rw [h0] at hg; cases hg
    · rw [he] at hg
      cases hg
      have e' : g' = l := e
      rw [e', hJ1.lp] at hh
      cases hh
  have gP := putObj_grown w1 l (.loop { rec0 with state := .busy })
  have hown2 := hown1.kept gP (fun g hg e => neA g hg (Option.some.inj e).symm)
  have gW : w.grownBy (w1.putObj l (.loop { rec0 with state := .busy })) (some l) := grownBy_then gD gP (by simp) (fun g e _ => e)
  show Code.wpIn _ _ _ _ _ _ (w1.putObj l (.loop { rec0 with state := .busy }))
  generalize w1.putObj l (.loop { rec0 with state := .busy }) = W1 at *
  -- body
  refine wpIn_block (wpIn_region_list ?_)
  show wpListIn _ _ _ _ _ [o3, o4, o5, o6, o7] _ _
  generalize hU : (T.put (some 9) (.pointer (some ⟨w.heap.size, 0, none⟩))).put none undef = U
  have U8 : U.eval (.tmp 8) = .pointer (some ⟨gc, 0, none⟩) := by rw [← hU]; exact (eval_put_ne _ _ _ _ (by omega)).trans T8
  have U9 : U.eval (.tmp 9) = .pointer (some ⟨w.heap.size, 0, none⟩) := by rw [← hU]; exact eval_put_eq _ _ _ (by rw [Ts]; omega)
  have Us : U.tmps.size = 113 := by rw [← hU]; simp [Act.put, Ts]
  clear hU
  refine wpListIn_run g3 (by rw [p3]; simp) (op_load42 _ _ _ gc _ p3 U8 gc2) ?_
  rw [d3]
  refine wpListIn_run g4 (by rw [p4]; simp) (op_load50 _ _ _ w.heap.size _ _ _ p4 ((eval_put_ne _ _ _ _ (by omega)).trans U9) z5) ?_
  rw [d4]
  refine wpListIn_run g5 (by rw [p5]; simp) (op_build _ _ _ L S x q c p5 (eval_put_eq _ _ _ (by simp [Act.put, Us]))) ?_
  rw [d5]
  have gE := World.grownBy_alloc W1 (.cells #[.int .i64 L, .string S, .slice x q c] 50) none
  have z6 := heap_alloc_new W1 (.cells #[.int .i64 L, .string S, .slice x q c] 50)
  have hown3 := hown2.kept gE (by simp)
  have gW2 : w.grownBy (W1.alloc (.cells #[.int .i64 L, .string S, .slice x q c] 50)) (some l) := grownBy_then gW gE (fun g e _ => e) (by simp)
  have l3 := (gE.block l (Array.getElem?_eq_some_iff.1 l2).1 (by simp)).trans l2
  have gc3 := (gE.block gc (Array.getElem?_eq_some_iff.1 gc2).1 (by simp)).trans gc2
  obtain ⟨g', cap, W2, hr, r2, r3, r4⟩ := op_append ((((U.put (some 31) (.slice a k c0)).put (some 32) (.agg #[.int .i64 L, .string S, .slice x q c])).put (some 33) (.slice (some ⟨W1.heap.size, 0, none⟩) 1 1))) o6 (W1.alloc (.cells #[.int .i64 L, .string S, .slice x q c] 50)) i50 h500 h501 h502 h503 p6 a k c0 _
    ((eval_put_ne _ _ _ _ (by omega)).trans ((eval_put_ne _ _ _ _ (by omega)).trans (eval_put_eq _ _ _ (by rw [Us]; omega)))) hown3 W1.heap.size L S x q c (eval_put_eq _ _ _ (by simp [Act.put, Us])) z6 (by omega)
  refine wpListIn_run g6 (by rw [p6]; simp) hr ?_
  rw [d6]
  have neG : blk a ≠ some gc := by
    intro e
    rcases hown1.shape with ⟨h0, _⟩ | ⟨g', cur, he, hh, _⟩
    · rw [h0] at e; cases e
    · rw [he] at e
      have e' : g' = gc := Option.some.inj e
      rw [e', gc1] at hh
      cases hh
  have gc4 := (r3.block gc (Array.getElem?_eq_some_iff.1 gc3).1 (fun e => neG e.symm)).trans gc3
  have l4 := (r3.block l (Array.getElem?_eq_some_iff.1 l3).1 (fun e => neA l e.symm rfl)).trans l3
  refine wpListIn_skips g7 (by rw [p7]; simp) (op_store42 _ _ _ gc _ _ _ _ p7 ((eval_put_ne _ _ _ _ (by omega)).trans ((eval_put_ne _ _ _ _ (by omega)).trans ((eval_put_ne _ _ _ _ (by omega)).trans ((eval_put_ne _ _ _ _ (by omega)).trans U8)))) (eval_put_eq _ _ _ (by simp [Act.put, Us])) gc4) ?_
  refine wpListIn_nil ?_
  subst eL eS
  have fin := hJ.next hC hgc hown hX ha hlg hll gW2 r3 (by
    rcases r4 with e | e
    · exact .inl e
    · refine .inr ?_
      have := gW2.size
      omega) r2 l4 hs hp
  exact ⟨rfl, fin.1, true, rfl, rfl, fin.2⟩
end Go.Proofs.Ybulkaqbo
