/-
  Laws of no program for this seat: a row of cells that the call itself owns, told by the slice's own three numbers; append onto it, with the word where the new row lies.
-/
import Derived.WalkKit
import Derived.WalkSpells
import Derived.Lib.AppendZerosOnto
import Derived.Laws.CopyOwn
namespace Go.Proofs.Ybulkaqke
open Go.RowKit

/-- The slice (a, n, c) owns the cells xs: nil, or the head of a block of cells of type e, not frozen. -/
def Own (w : World) (e : TypeId) (size : Nat) (a : Option Addr) (n c : Nat) (xs : List Value) : Prop := w.ownsRow 0 e size (.slice a n c) n xs

/-- The block that a slice's address lies in. -/
def blk : Option Addr → Option Nat
  | some a => some a.block
  | none => none

theorem ownBlock_slice (a : Option Addr) (n c : Nat) : (Value.slice a n c).ownBlock = blk a := by cases a <;> rfl

theorem Own.nil (w : World) (e : TypeId) (size : Nat) : Own w e size none 0 0 [] := World.ownsRow_nil w 0 e size

theorem Own.kept {w w' : World} {e : TypeId} {size : Nat} {a : Option Addr} {n c : Nat} {xs : List Value} {row : Option Nat} (h : Own w e size a n c xs) (hg : w.grownBy w' row) (hne : ∀ g, blk a = some g → row ≠ some g) : Own w' e size a n c xs := by
  refine World.ownsRow.kept h hg ?_
  rw [ownBlock_slice]
  cases hb : blk a with
  | none => exact .inl rfl
  | some g => exact .inr (fun e => hne g hb e.symm)

theorem Own.lt {w : World} {e : TypeId} {size : Nat} {a : Option Addr} {n c : Nat} {xs : List Value} (h : Own w e size a n c xs) : ∀ g, blk a = some g → g < w.heap.size := by
  intro g hg
  exact (World.ownsRow.lt h g (by rw [ownBlock_slice]; exact hg)).2

/-- Two steps: whatever old block the second turned is the one named. -/
theorem grownBy_then {x y z : World} {r r' q : Option Nat} (h : x.grownBy y r) (k : y.grownBy z r') (hr : ∀ g, r = some g → g < x.heap.size → q = some g) (hr' : ∀ g, r' = some g → g < x.heap.size → q = some g) : x.grownBy z q :=
  ⟨k.os.trans h.os, k.tape.trans h.tape, k.output.trans h.output, Nat.le_trans h.size k.size, fun g hg hne =>
    (k.block g (Nat.lt_of_lt_of_le hg h.size) (fun e => hne (hr' g e.symm hg).symm)).trans (h.block g hg (fun e => hne (hr g e.symm hg).symm))⟩

theorem grownBy_setCell (w : World) (a : Addr) (v : Value) : w.grownBy (w.setCell a v) (some a.block) :=
  ⟨rfl, rfl, rfl, by simp [World.setCell], fun j _ hj => Below.heap_setCell _ _ _ _ (fun e => hj (by rw [e]))⟩

theorem heap_setCell_at (w : World) (b o : Nat) (v : Value) (cs : Array Value) (t : TypeId) (h : w.heap[b]? = some (.cells cs t (0, 0))) : (w.setCell ⟨b, o, none⟩ v).heap[b]? = some (.cells (cs.setIfInBounds o v) t (0, 0)) := by
  simp [World.setCell, Array.getElem?_modify, h]

/-- The two shapes. -/
theorem Own.shape {w : World} {e : TypeId} {size : Nat} {a : Option Addr} {n c : Nat} {xs : List Value} (h : Own w e size a n c xs) :
    (a = none ∧ n = 0 ∧ c = 0 ∧ xs = []) ∨ ∃ g cur, a = some ⟨g, 0, none⟩ ∧ w.heap[g]? = some (.cells cur e (0, 0)) ∧ n ≤ c ∧ c ≤ maxLen ∧ cur.size = c * size ∧ cur.toList.take (n * size) = xs := by
  obtain ⟨h1, h2⟩ := h
  rcases h2 with ⟨hv, hn⟩ | ⟨g, cap, cur, hv, _, hh, h3, h4, h5, h6⟩
  · simp at hv
    obtain ⟨rfl, rfl, rfl⟩ := hv
    exact .inl ⟨rfl, rfl, rfl, List.eq_nil_of_length_eq_zero (by simpa using h1)⟩
  · simp at hv
    obtain ⟨rfl, rfl⟩ := hv
    exact .inr ⟨g, cur, rfl, hh, h3, h4, h5, h6⟩

theorem Own.mk {w : World} {e : TypeId} {size g n c : Nat} {cur : Array Value} {xs : List Value} (hh : w.heap[g]? = some (.cells cur e (0, 0))) (h3 : n ≤ c) (h4 : c ≤ maxLen) (h5 : cur.size = c * size) (h6 : cur.toList.take (n * size) = xs) : Own w e size (some ⟨g, 0, none⟩) n c xs := by
  refine ⟨?_, .inr ⟨g, c, cur, rfl, Nat.zero_le _, hh, h3, h4, h5, h6⟩⟩
  rw [← h6, List.length_take, Array.length_toList, h5]
  exact Nat.min_eq_left (Nat.mul_le_mul_right _ h3)

theorem Own.len {w : World} {e : TypeId} {size : Nat} {a : Option Addr} {n c : Nat} {xs : List Value} (h : Own w e size a n c xs) : xs.length = n * size := h.1

theorem Own.le {w : World} {e : TypeId} {size : Nat} {a : Option Addr} {n c : Nat} {xs : List Value} (h : Own w e size a n c xs) : n ≤ c := by
  rcases h.shape with ⟨_, rfl, rfl, _⟩ | ⟨_, _, _, _, h, _⟩
  · exact Nat.le_refl _
  · exact h

theorem Own.capLe {w : World} {e : TypeId} {size : Nat} {a : Option Addr} {n c : Nat} {xs : List Value} (h : Own w e size a n c xs) : c ≤ maxLen := by
  rcases h.shape with ⟨_, rfl, rfl, _⟩ | ⟨_, _, _, _, _, h, _⟩
  · exact Nat.zero_le _
  · exact h

/-- A cell of the row. -/
theorem Own.cell {w : World} {e : TypeId} {size g n c : Nat} {xs : List Value} (h : Own w e size (some ⟨g, 0, none⟩) n c xs) {j : Nat} {u : Value} (hj : xs[j]? = some u) : w.cell? ⟨g, j, none⟩ = some u := by
  have := World.ownsRow.cells h (g := g) rfl j u hj
  rwa [Addr.add_lit, Nat.zero_add] at this

theorem Own.free {w : World} {e : TypeId} {size g n c : Nat} {xs : List Value} (h : Own w e size (some ⟨g, 0, none⟩) n c xs) (j : Nat) : w.frozen? ⟨g, j, none⟩ = false := by
  rcases h.shape with ⟨h, _⟩ | ⟨g', cur, hg, hh, _⟩
  · cases h
  · simp at hg
    subst hg
    simp [World.frozen?, hh]

/-- APPEND, m new cells' worth of elements: where the new row lies is told. -/
theorem run_append_mine {P : Program} (w : World) (t ty e : TypeId) (i : TypeInfo) (z : Value) (size bytes : Nat) (ht : P.underlying t = some (.slice e)) (hi : P.info? e = some i) (hz : i.zero = some z)
    (hsize : i.size = size) (hby : i.bytes = bytes) (hzs : z.cells.size = size) (hsz : 0 < size)
    (a : Option Addr) (n c : Nat) (xs : List Value) (hown : Own w e size a n c xs)
    (ad : Addr) (m c' : Nat) (hm : 0 < m) (news : List Value) (hl : news.length = m * size) (hnews : ∀ j u, news[j]? = some u → w.cell? (ad.add j) = some u) (h1 : ∀ u ∈ news, u.oneCell' = true)
    (h63 : n + m ≤ maxLen) (hbytes : (n + m) * bytes ≤ 140737488355328) :
    ∃ g cap w', (Builtin.append_ #[t, t] ty #[.slice a n c, .slice (some ad) m c']).run P w = .ok (.slice (some ⟨g, 0, none⟩) (n + m) cap) w' ∧ Own w' e size (some ⟨g, 0, none⟩) (n + m) cap (xs ++ news) ∧ w.grownBy w' (blk a) ∧
      (a = some ⟨g, 0, none⟩ ∨ g = w.heap.size) := by
  obtain ⟨v', w', hr, hown', hg, _⟩ := run_append_own (P := P) w 0 t ty e i z size bytes ht hi hz hsize hby hzs hsz (.slice a n c) n xs hown ad m c' news hl hnews h1 h63 hbytes (Nat.zero_le _)
  rw [ownBlock_slice] at hg
  have h63' : n + m ≤ 9223372036854775807 := by simpa [maxLen] using h63
  subst hsize
  subst hby
  rcases hown.shape with ⟨rfl, rfl, rfl, rfl⟩ | ⟨g, cur, rfl, hh, h3, h4, h5, h6⟩
  · have hr2 := run_append_nil (P := P) w t ty e i z ht hi hz ad m c' news hl hnews hm (by omega) (by simp only [Nat.zero_add] at hbytes; omega)
    rw [hr] at hr2
    simp only [Result.ok.injEq] at hr2
    obtain ⟨rfl, rfl⟩ := hr2
    simp only [Nat.zero_add, List.nil_append] at hown' ⊢
    exact ⟨_, _, _, hr, hown', hg, .inr rfl⟩
  · by_cases hroom : n + m ≤ c
    · obtain ⟨w2, hr2, hown2, hg2⟩ := run_append_fits (P := P) w 0 t ty e i i.size ht hi rfl g n c xs hown ad m c' news hl hnews h1 hroom
      exact ⟨g, c, w2, hr2, hown2, hg2, .inl rfl⟩
    · have holds : ∀ j u, xs[j]? = some u → w.cell? ((⟨g, 0, none⟩ : Addr).add j) = some u := World.ownsRow.cells hown (g := g) rfl
      have hr2 := run_append_grow (P := P) w t ty e i z ht hi hz ⟨g, 0, none⟩ n c xs hown.1 holds ad m c' news hl hnews (by omega) (by omega) (growslice_fits (by omega) hbytes)
      rw [hr] at hr2
      simp only [Result.ok.injEq] at hr2
      obtain ⟨rfl, rfl⟩ := hr2
      exact ⟨_, _, _, hr, hown', hg, .inr rfl⟩

theorem wpList_append_mine {P : Program} (w : World) {ops : Array Oper} {rest : List Oper} {o : Oper} {ac : Act} {Q : Exit → Act → World → Prop} (hgd : o.guard = none) (s x : Operand) (t : TypeId)
    (ho : o.op = .call { callee := .builtin .append, args := #[s, x], argTypes := #[t, t] })
    (e : TypeId) (i : TypeInfo) (z : Value) (size bytes : Nat) (ht : P.underlying t = some (.slice e)) (hi : P.info? e = some i) (hz : i.zero = some z)
    (hsize : i.size = size) (hby : i.bytes = bytes) (hzs : z.cells.size = size) (hsz : 0 < size)
    (a : Option Addr) (n c : Nat) (xs : List Value) (hs : ac.eval s = .slice a n c) (hown : Own w e size a n c xs)
    (ad : Addr) (m c' : Nat) (hm : 0 < m) (news : List Value) (hx : ac.eval x = .slice (some ad) m c') (hl : news.length = m * size) (hnews : ∀ j u, news[j]? = some u → w.cell? (ad.add j) = some u) (h1 : ∀ u ∈ news, u.oneCell' = true)
    (h63 : n + m ≤ maxLen) (hbytes : (n + m) * bytes ≤ 140737488355328)
    (h : ∀ g cap w', Own w' e size (some ⟨g, 0, none⟩) (n + m) cap (xs ++ news) → w.grownBy w' (blk a) → (a = some ⟨g, 0, none⟩ ∨ g = w.heap.size) → wpList P ops Q rest (ac.put o.dst (.slice (some ⟨g, 0, none⟩) (n + m) cap)) w') : wpList P ops Q (o :: rest) ac w := by
  refine wpList_plain hgd fun K hK => ?_
  obtain ⟨g, cap, w', hr, h2, h3, h4⟩ := run_append_mine (P := P) w t o.type e i z size bytes ht hi hz hsize hby hzs hsz a n c xs hown ad m c' hm news hl hnews h1 h63 hbytes
  unfold Oper.wp execOp
  simp only [ho, resolve, invoke, builtin, Sem.run_bind, Sem.run_pure, Result.andThen_ok, List.map_toArray, List.map_cons, List.map_nil, hs, hx, hr]
  exact hK _ _ (h g cap w' h2 h3 h4)

/-- 'append(s, make([]T, k)...)' where there is no room for k more: a new row; its first n elements are s's. -/
theorem run_append_zeros_mine {P : Program} (w : World) (t tn ty e : TypeId) (i : TypeInfo) (z : Value) (kq kn : IntKind) (size bytes : Nat) (ht : P.underlying t = some (.slice e)) (htn : P.underlying tn = some (.int kn)) (hi : P.info? e = some i) (hz : i.zero = some z)
    (hsize : i.size = size) (hby : i.bytes = bytes) (hzs : z.cells.size = size) (hsz : 0 < size)
    (a : Option Addr) (n c : Nat) (xs : List Value) (hown : Own w e size a n c xs) (k : Nat) (hk : 0 < k) (hc : c < n + k) (h63 : n + k ≤ maxLen) (hbytes : (n + k) * bytes ≤ 140737488355328) :
    ∃ cap w', (Builtin.append_ #[t, tn] ty #[.slice a n c, .int kq k]).run P w = .ok (.slice (some ⟨w.heap.size, 0, none⟩) (n + k) cap) w' ∧ n + k ≤ cap ∧ Own w' e size (some ⟨w.heap.size, 0, none⟩) n cap xs ∧ w.grownBy w' none := by
  subst hsize
  subst hby
  have h63' : n + k ≤ 9223372036854775807 := by simpa [maxLen] using h63
  have hold : (Builtin.firstCells i.size n (.slice a n c)).run P w.drew = .ok xs.toArray w.drew := by
    rcases hown.shape with ⟨rfl, rfl, rfl, rfl⟩ | ⟨g, cur, rfl, _⟩
    · simp [Builtin.firstCells]
    · exact run_firstCells_some (P := P) w.drew i.size n ⟨g, 0, none⟩ n c xs hown.1 (World.ownsRow.cells hown (g := g) rfl)
  have h48 : k * i.bytes ≤ 281474976710656 := by
    have := Nat.mul_le_mul_right i.bytes (show k ≤ n + k by omega)
    omega
  have hr := Lib.run_append_grow_zeros (P := P) w t tn ty e i z kq kn ht htn hi hz a n c xs hold k hk hsz hc (by omega) h48 (growslice_fits hc hbytes)
  have hge := grownCap_ge w (n + k) c e
  refine ⟨_, _, hr, hge, Own.mk (heap_alloc_new w.drew _) (by omega) (grownCap_le_maxLen w (n + k) c e h63) ?_ ?_, ⟨rfl, rfl, rfl, by simp, fun j hj _ => Below.heap_alloc w.drew _ j hj⟩⟩
  · simp only [Array.size_append, List.size_toArray, size_zeroCells, hzs, hown.1, ← Nat.add_mul]
    congr 1
    omega
  · simp only [Array.toList_append, List.append_assoc]
    rw [← hown.1]
    exact List.take_left

theorem wpList_append_zeros {P : Program} (w : World) {ops : Array Oper} {rest : List Oper} {o : Oper} {ac : Act} {Q : Exit → Act → World → Prop} (hgd : o.guard = none) (s x : Operand) (t tn : TypeId)
    (ho : o.op = .call { callee := .builtin .append, args := #[s, x], argTypes := #[t, tn] })
    (e : TypeId) (i : TypeInfo) (z : Value) (kq kn : IntKind) (size bytes : Nat) (ht : P.underlying t = some (.slice e)) (htn : P.underlying tn = some (.int kn)) (hi : P.info? e = some i) (hz : i.zero = some z)
    (hsize : i.size = size) (hby : i.bytes = bytes) (hzs : z.cells.size = size) (hsz : 0 < size)
    (a : Option Addr) (n c : Nat) (xs : List Value) (hs : ac.eval s = .slice a n c) (hown : Own w e size a n c xs) (q : Int) (k : Nat) (hx : ac.eval x = .int kq q) (hq : q = (k : Int)) (hk : 0 < k) (hc : c < n + k) (h63 : n + k ≤ maxLen) (hbytes : (n + k) * bytes ≤ 140737488355328)
    (h : ∀ cap w', n + k ≤ cap → Own w' e size (some ⟨w.heap.size, 0, none⟩) n cap xs → w.grownBy w' none → wpList P ops Q rest (ac.put o.dst (.slice (some ⟨w.heap.size, 0, none⟩) (n + k) cap)) w') : wpList P ops Q (o :: rest) ac w := by
  refine wpList_plain hgd fun K hK => ?_
  subst hq
  obtain ⟨cap, w', hr, h1, h2, h3⟩ := run_append_zeros_mine (P := P) w t tn o.type e i z kq kn size bytes ht htn hi hz hsize hby hzs hsz a n c xs hown k hk hc h63 hbytes
  unfold Oper.wp execOp
  simp only [ho, resolve, invoke, builtin, Sem.run_bind, Sem.run_pure, Result.andThen_ok, List.map_toArray, List.map_cons, List.map_nil, hs, hx, hr]
  exact hK _ _ (h cap w' h1 h2 h3)

/-- A slice that came in, of one-cell elements: element i's cell holds V i. -/
def In1 (w : World) (a : Option Addr) (n : Nat) (V : Nat → Value) : Prop := n = 0 ∨ ∃ b o, a = some ⟨b, o, none⟩ ∧ b < w.heap.size ∧ ∀ i, i < n → w.cell? ⟨b, o + i, none⟩ = some (V i)

theorem In1.below {w w' : World} {a : Option Addr} {n : Nat} {V : Nat → Value} (h : In1 w a n V) (hb : Below w.heap.size w w') : In1 w' a n V := by
  rcases h with h | ⟨b, o, ha, hlt, hc⟩
  · exact .inl h
  · exact .inr ⟨b, o, ha, Nat.lt_of_lt_of_le hlt hb.size, fun i hi => (hb.cell (p := ⟨b, o + i, none⟩) hlt).trans (hc i hi)⟩

/-- 'make([]T, l, n)': the new block, written out. -/
theorem wpList_make_mine {P : Program} (w : World) {ops : Array Oper} {rest : List Oper} {o : Oper} {ac : Act} {Q : Exit → Act → World → Prop} (hgd : o.guard = none) (x y : Operand) (t : TypeId) (ho : o.op = Op.makeSlice t x y)
    (e : TypeId) (i : TypeInfo) (z : Value) (size bytes : Nat) (ht : P.underlying t = some (.slice e)) (hi : P.info? e = some i) (hz : i.zero = some z) (hsize : i.size = size) (hby : i.bytes = bytes)
    (kl kc : IntKind) (l n : Nat) (L C : Int) (hx : ac.eval x = .int kl L) (hy : ac.eval y = .int kc C) (hL : L = (l : Int)) (hC : C = (n : Int)) (hln : l ≤ n) (hb : bytes * n ≤ 281474976710656) (h63 : n ≤ 9223372036854775807)
    (h : wpList P ops Q rest (ac.put o.dst (.slice (some ⟨w.heap.size, 0, none⟩) l n)) (w.alloc (.cells (madeCells z.cells (n * size)) e))) : wpList P ops Q (o :: rest) ac w := by
  refine wpList_plain hgd fun K hK => ?_
  subst hsize
  subst hby
  subst hL
  subst hC
  have hb' : (i.bytes : Int) * (n : Int) ≤ 281474976710656 := by
    have h : ((i.bytes * n : Nat) : Int) ≤ 281474976710656 := by omega
    rwa [Int.natCast_mul] at h
  have hr := run_make (P := P) w t e i z ht hi hz kl kc l n (by omega) (by omega) hb' (by omega)
  simp only [Int.toNat_natCast] at hr
  unfold Oper.wp
  simp [execOp, ho, hx, hy, hr, Result.andThen]
  exact hK _ _ h

/-- 'copy(dst, src)', dst a whole block of the call's own of n one-cell elements, src as many that came in. -/
theorem wpList_copy_mine {P : Program} (w : World) {ops : Array Oper} {rest : List Oper} {o : Oper} {ac : Act} {Q : Exit → Act → World → Prop} (hgd : o.guard = none) (d s : Operand) (dT sT : TypeId)
    (ho : o.op = .call { callee := .builtin .copy, args := #[d, s], argTypes := #[dT, sT] }) (e : TypeId) (hu : P.underlying dT = some (.slice e)) (hsz : (P.info? e).map (·.size) = some 1)
    (g n cd cs : Nat) (sp : Option Addr) (hd : ac.eval d = .slice (some ⟨g, 0, none⟩) n cd) (hs : ac.eval s = .slice sp n cs) (V : Nat → Value) (hin : In1 w sp n V) (h1 : ∀ i, i < n → (V i).oneCell' = true)
    (cur : Array Value) (t : TypeId) (hg : w.heap[g]? = some (.cells cur t (0, 0))) (hcur : cur.size = n)
    (h : ∀ w', w'.heap[g]? = some (.cells ((List.range n).map V).toArray t (0, 0)) → w.grownBy w' (some g) → wpList P ops Q rest (ac.put o.dst (goInt n)) w') : wpList P ops Q (o :: rest) ac w := by
  by_cases hn : n = 0
  · subst hn
    refine wpList_copy_nothing hgd d s dT sT ho e hu hsz _ _ _ _ _ _ hd hs (by simp) (h w ?_ ⟨rfl, rfl, rfl, Nat.le_refl _, fun _ _ _ => rfl⟩)
    rw [hg]
    have : cur = #[] := Array.eq_empty_of_size_eq_zero hcur
    simp [this]
  · rcases hin with h0 | ⟨b, off, rfl, _, hc⟩
    · exact absurd h0 hn
    · have hmin : Nat.min n n = n := Nat.min_self n
      refine wpList_copy_own hgd d s dT sT ho e hu hsz g 0 n cd ⟨b, off, none⟩ n cs hd hs cur t hg ((List.range n).map V) (by simp [hmin]) ?_ (by simp [hcur]) ?_ ?_
      · intro j v hj
        have hjn : j < n := by
          have := (List.getElem?_eq_some_iff.1 hj).1
          simpa using this
        rw [Addr.add_lit, hc j hjn]
        simpa [hjn] using hj
      · intro v hv
        obtain ⟨j, hj, rfl⟩ := List.mem_map.1 hv
        exact h1 j (List.mem_range.1 hj)
      · have hlen : ((List.range n).map V).length = n := by simp
        rw [hlen]
        refine h _ ?_ ⟨rfl, rfl, rfl, by simp [World.setRow], fun k _ hk => setRow_other w g k _ (fun e => hk (by rw [e]))⟩
        rw [setRow_heap w g _ _ t _ hg]
        simp [hcur]

end Go.Proofs.Ybulkaqke
