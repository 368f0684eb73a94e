import Derived.Test.YbulkaqboB15
namespace Go.Proofs.Ybulkaqbo
open Go.RowKit

theorem op_alloc (a : Act) (o : Oper) (w : World) (h : o.op = .alloc 50) : (execOp a.eval o).run Yba.prog w = .ok (.value (.pointer (some ⟨w.heap.size, 0, none⟩))) (w.alloc (.cells #[.int .i64 0, .string ByteArray.empty, .slice none 0 0] 50)) := by
  simp [execOp, h, go_sem]
  rfl

theorem op_store (a : Act) (o : Oper) (w : World) (g : Nat) (L : Int) (S : ByteArray) (x : Option Addr) (q c : Nat) (y1 y2 y3 : Value) (h : o.op = .store 50 (.tmp 9) (.tmp 30)) (h9 : a.eval (.tmp 9) = .pointer (some ⟨g, 0, none⟩)) (h30 : a.eval (.tmp 30) = .agg #[.int .i64 L, .string S, .slice x q c]) (hw : w.heap[g]? = some (.cells #[y1, y2, y3] 50)) :
    (execOp a.eval o).run Yba.prog w = .ok .skip (((w.setCell ⟨g, 0, none⟩ (.int .i64 L)).setCell ⟨g, 1, none⟩ (.string S)).setCell ⟨g, 2, none⟩ (.slice x q c)) := by
  have e9 := evalG h9
  have e30 := evalG h30
  have c0 : w.cell? ⟨g, 0, none⟩ = some y1 := cellAt hw 0
  have c1 : w.cell? ⟨g, 1, none⟩ = some y2 := cellAt hw 1
  have c2 : w.cell? ⟨g, 2, none⟩ = some y3 := cellAt hw 2
  have f : ∀ j, w.frozen? ⟨g, j, none⟩ = false := fun j => by simp only [World.frozen?, hw]; rfl
  simp [execOp, h, e9, e30, c0, c1, c2, f, go_sem]
theorem op_load42 (a : Act) (o : Oper) (w : World) (g : Nat) (v : Value) (h : o.op = .load 42 (.tmp 8)) (h8 : a.eval (.tmp 8) = .pointer (some ⟨g, 0, none⟩)) (hw : w.heap[g]? = some (.cells #[v] 42)) : (execOp a.eval o).run Yba.prog w = .ok (.value v) w := by
  have e8 := evalG h8
  have c0 : w.cell? ⟨g, 0, none⟩ = some v := cellAt hw 0
  simp [execOp, h, e8, c0, go_sem]

theorem op_load50 (a : Act) (o : Oper) (w : World) (g : Nat) (x1 x2 x3 : Value) (h : o.op = .load 50 (.tmp 9)) (h9 : a.eval (.tmp 9) = .pointer (some ⟨g, 0, none⟩)) (hw : w.heap[g]? = some (.cells #[x1, x2, x3] 50)) : (execOp a.eval o).run Yba.prog w = .ok (.value (.agg #[x1, x2, x3])) w := by
  have e9 := evalG h9
  have c0 : w.cell? ⟨g, 0, none⟩ = some x1 := cellAt hw 0
  have c1 : w.cell? ⟨g, 1, none⟩ = some x2 := cellAt hw 1
  have c2 : w.cell? ⟨g, 2, none⟩ = some x3 := cellAt hw 2
  simp [execOp, h, e9, c0, c1, c2, go_sem]

theorem op_build (a : Act) (o : Oper) (w : World) (L : Int) (S : ByteArray) (x : Option Addr) (q c : Nat) (h : o.op = .buildSlice 42 1 #[(0, .tmp 32)]) (h32 : a.eval (.tmp 32) = .agg #[.int .i64 L, .string S, .slice x q c]) :
    (execOp a.eval o).run Yba.prog w = .ok (.value (.slice (some ⟨w.heap.size, 0, none⟩) 1 1)) (w.alloc (.cells #[.int .i64 L, .string S, .slice x q c] 50)) := by
  have e32 := evalG h32
  simp [execOp, h, e32, go_sem]

theorem op_store42 (a : Act) (o : Oper) (w : World) (g : Nat) (x : Option Addr) (q c : Nat) (y : Value) (h : o.op = .store 42 (.tmp 8) (.tmp 34)) (h8 : a.eval (.tmp 8) = .pointer (some ⟨g, 0, none⟩)) (h34 : a.eval (.tmp 34) = .slice x q c) (hw : w.heap[g]? = some (.cells #[y] 42)) :
    (execOp a.eval o).run Yba.prog w = .ok .skip (w.setCell ⟨g, 0, none⟩ (.slice x q c)) := by
  have e8 := evalG h8
  have e34 := evalG h34
  have c0 : w.cell? ⟨g, 0, none⟩ = some y := cellAt hw 0
  have f : ∀ j, w.frozen? ⟨g, j, none⟩ = false := fun j => by simp only [World.frozen?, hw]; rfl
  simp [execOp, h, e8, e34, c0, f, go_sem]

theorem op_append (a : Act) (o : Oper) (w : World) (i50 : TypeInfo) (h0 : Yba.prog.info? 50 = some i50) (h1 : i50.zero = some (.agg #[.int .i64 0, .string ByteArray.empty, .slice none 0 0])) (h2 : i50.size = 3) (h3 : i50.bytes = 48)
    (h : o.op = .call { callee := .builtin .append, args := #[.tmp 31, .tmp 33], argTypes := #[42, 42] }) (s : Option Addr) (k c : Nat) (xs : List Value) (h31 : a.eval (.tmp 31) = .slice s k c) (hown : Own w 50 3 s k c xs) (g : Nat) (L : Int) (S : ByteArray) (x : Option Addr) (q c' : Nat)
    (h33 : a.eval (.tmp 33) = .slice (some ⟨g, 0, none⟩) 1 1) (hw : w.heap[g]? = some (.cells #[.int .i64 L, .string S, .slice x q c'] 50)) (hk : k ≤ 1024) :
    ∃ g' cap w', (execOp a.eval o).run Yba.prog w = .ok (.value (.slice (some ⟨g', 0, none⟩) (k + 1) cap)) w' ∧ Own w' 50 3 (some ⟨g', 0, none⟩) (k + 1) cap (xs ++ [.int .i64 L, .string S, .slice x q c']) ∧ w.grownBy w' (blk s) ∧ (s = some ⟨g', 0, none⟩ ∨ g' = w.heap.size) := by
  obtain ⟨g', cap, w', hr, q2, q3, q4⟩ := run_append_mine (P := Yba.prog) w 42 o.type 50 i50 _ 3 48 Yba.underlying42 h0 h1 h2 h3 rfl (by decide) s k c xs hown ⟨g, 0, none⟩ 1 1 (by decide) [.int .i64 L, .string S, .slice x q c'] rfl
    (fun j u hj => by rw [Addr.add_lit, Nat.zero_add, cellAt hw j]; simpa using hj) (by simp [Value.oneCell']) (by unfold maxLen; omega) (by omega)
  refine ⟨g', cap, w', ?_, q2, q3, q4⟩
  unfold execOp
  simp only [h, resolve, invoke, builtin, Sem.run_bind, Sem.run_pure, Result.andThen_ok, List.map_toArray, List.map_cons, List.map_nil, h31, h33, hr]
theorem Yba.info50 : (Yba.prog.info? 50).map (fun i => (i.zero, i.size, i.bytes)) = some (some (.agg #[.int .i64 0, .string ByteArray.empty, .slice none 0 0]), 3, 48) := by kernel_rfl
end Go.Proofs.Ybulkaqbo
