import Derived.Test.YbulkaqboB6
namespace Go.Proofs.Ybulkaqbo
open Go.RowKit

theorem Yba.info57 : (Yba.prog.info? 57).map (fun i => (i.zero, i.size, i.bytes)) = some (some (.agg #[.int .i64 0, .slice none 0 0]), 2, 32) := by kernel_rfl
theorem Yba.info60 : (Yba.prog.info? 60).map (fun i => (i.zero, i.size, i.bytes)) = some (some (.agg #[.slice none 0 0]), 1, 24) := by kernel_rfl

/-- 'make([]T, 0, n)' as an equation. -/
theorem run_make_mine {P : Program} (t e : TypeId) (z : Value) (size bytes : Nat) (ht : P.underlying t = some (.slice e)) (hinfo : (P.info? e).map (fun i => (i.zero, i.size, i.bytes)) = some (some z, size, bytes))
    (kl kc : IntKind) (n : Nat) (C : Int) (hC : C = n) (hb : bytes * n ≤ 281474976710656) (h63 : n ≤ 9223372036854775807) (w : World) :
    (Instr.makeSlice t (.int kl 0) (.int kc C)).run P w = .ok (.slice (some ⟨w.heap.size, 0, none⟩) 0 n) (w.alloc (.cells (madeCells z.cells (n * size)) e)) := by
  obtain ⟨i, hi, hzz⟩ := Option.map_eq_some_iff.1 hinfo
  simp only [Prod.mk.injEq] at hzz
  obtain ⟨hz, hs, hby⟩ := hzz
  subst hs
  subst hby
  subst hC
  have hb' : (i.bytes : Int) * (n : Int) ≤ 281474976710656 := by
    have h : ((i.bytes * n : Nat) : Int) ≤ 281474976710656 := by omega
    rwa [Int.natCast_mul] at h
  have hr := run_make (P := P) w t e i z ht hi hz kl kc 0 n (by omega) (by omega) hb' (by omega)
  simpa only [Int.toNat_natCast, Int.toNat_zero] using hr

/-- append onto a row of the call's own, as a step of a region that draws. -/
theorem step_append_mine {P : Program} {ops : Array Oper} {o : Oper} {a : Act} {w : World} {K : Act → World → Prop} {Q : Exit → Act → World → Prop} {E : Prop}
    (hg : o.guard = none) (s x : Operand) (t : TypeId) (hop : o.op = Op.call { callee := Callee.builtin Builtin.append, args := #[s, x], argTypes := #[t, t] })
    (e : TypeId) (i : TypeInfo) (z : Value) (size bytes : Nat) (h1 : P.underlying t = some (.slice e)) (h2 : P.info? e = some i) (h3 : i.zero = some z) (h4 : i.size = size) (h5 : i.bytes = bytes) (h6 : z.cells.size = size) (h7 : 0 < size)
    (ao : Option Addr) (n cap : Nat) (olds : List Value) (hs : a.eval s = .slice ao n cap) (hown : Own w e size ao n cap olds)
    (ad : Addr) (m c : Nat) (hm : 0 < m) (news : List Value) (hx : a.eval x = .slice (some ad) m c) (hn : news.length = m * size) (hc : ∀ j u, news[j]? = some u → w.cell? (ad.add j) = some u) (h1c : ∀ u ∈ news, u.oneCell' = true)
    (b1 : n + m ≤ maxLen) (b2 : (n + m) * bytes ≤ 140737488355328)
    (hK : ∀ g cp w', Own w' e size (some ⟨g, 0, none⟩) (n + m) cp (olds ++ news) → w.grownBy w' (blk ao) → (ao = some ⟨g, 0, none⟩ ∨ g = w.heap.size) → K (a.put o.dst (.slice (some ⟨g, 0, none⟩) (n + m) cp)) w') :
    if Region.wanted o (yielded ops a.tmps) = true then Oper.wp P o a w K Q else E := by
  have hw : Region.wanted o (yielded ops a.tmps) = true := by simp [Region.wanted, hg]
  rw [if_pos hw]
  obtain ⟨g, cp, w', hr, q2, q3, q4⟩ := run_append_mine (P := P) w t o.type e i z size bytes h1 h2 h3 h4 h5 h6 h7 ao n cap olds hown ad m c hm news hn hc h1c b1 b2
  unfold Oper.wp execOp
  simp only [hop, resolve, invoke, builtin, Sem.run_bind, Sem.run_pure, Result.andThen_ok, List.map_toArray, List.map_cons, List.map_nil, hs, hx, hr]
  exact hK g cp w' q2 q3 q4

def CondOk (w : World) (n : Nat) (p : Procs) (i : Nat) (v : Value) : Prop :=
  (p.wt i = false ∧ v = .agg #[.slice none 0 0]) ∨
  (p.wt i = true ∧ ∃ (gg cg gf cf gn cn : Nat) (k1 k2 k3 : Array Value), v = .agg #[.slice (some ⟨gg, 0, none⟩) 1 cg] ∧ w.heap[gg]? = some (.cells k1 60 (0, 0)) ∧ w.heap[gf]? = some (.cells k2 57 (0, 0)) ∧ w.heap[gn]? = some (.cells k3 9 (0, 0)) ∧
    k1[0]? = some (.slice (some ⟨gf, 0, none⟩) 1 cf) ∧ k2[0]? = some (.int .i64 (p.nd i)) ∧ k2[1]? = some (.slice (some ⟨gn, 0, none⟩) (p.tl i) cn) ∧ ∀ j, j < p.tl i → k3[j]? = some (.string (nameOf (p.nm (p.td i j % n).toNat))))
def waitR (w : World) (n : Nat) (p : Procs) (i : Nat) (e : Ending) (w' : World) : Prop := ∃ v, e = .returned v ∧ CondOk w' n p i v ∧ w.grownBy w' none

theorem cells_two_new (w : World) (x y : Value) (t : TypeId) : ∀ j u, [x, y][j]? = some u → (w.alloc (.cells #[x, y] t)).drew.cell? ((⟨w.heap.size, 0, none⟩ : Addr).add j) = some u := by
  intro j u hj
  have hr : (w.alloc (.cells #[x, y] t)).drew.heap[w.heap.size]? = some (.cells #[x, y] t (0, 0)) := heap_alloc_new w (.cells #[x, y] t)
  rw [Addr.add_lit, Nat.zero_add]
  simp only [World.cell?, hr]
  simpa using hj

/-- The three rows that wait makes. -/
structure Mid (W2 W : World) (gN gF gG nN cN nF cF nG cG : Nat) (xN xF xG : List Value) : Prop where
  oN : Own W 9 1 (some ⟨gN, 0, none⟩) nN cN xN
  oF : Own W 57 2 (some ⟨gF, 0, none⟩) nF cF xF
  oG : Own W 60 1 (some ⟨gG, 0, none⟩) nG cG xG
  lN : W2.heap.size ≤ gN
  lF : W2.heap.size ≤ gF
  lG : W2.heap.size ≤ gG
  dNF : gN ≠ gF
  dNG : gN ≠ gG
  dFG : gF ≠ gG
  gr : W2.grownBy W none

theorem Own.ltB {w : World} {e : TypeId} {size : Nat} {g n c : Nat} {xs : List Value} (h : Own w e size (some ⟨g, 0, none⟩) n c xs) : g < w.heap.size := h.lt g rfl

theorem Mid.later {W2 W W' : World} {gN gF gG nN cN nF cF nG cG : Nat} {xN xF xG : List Value} (h : Mid W2 W gN gF gG nN cN nF cF nG cG xN xF xG) (hg : W.grownBy W' none) : Mid W2 W' gN gF gG nN cN nF cF nG cG xN xF xG :=
  ⟨h.oN.kept hg (by simp), h.oF.kept hg (by simp), h.oG.kept hg (by simp), h.lN, h.lF, h.lG, h.dNF, h.dNG, h.dFG, grownBy_then h.gr hg (by simp) (by simp)⟩
theorem Mid.appN {W2 W W' : World} {gN gF gG nN cN nF cF nG cG g c n' : Nat} {xN xF xG xs : List Value} (h : Mid W2 W gN gF gG nN cN nF cF nG cG xN xF xG) (hg : W.grownBy W' (some gN)) (ho : Own W' 9 1 (some ⟨g, 0, none⟩) n' c xs) (hw : some (⟨gN, 0, none⟩ : Addr) = some ⟨g, 0, none⟩ ∨ g = W.heap.size) :
    Mid W2 W' g gF gG n' c nF cF nG cG xs xF xG := by
  have a1 := h.oF.ltB
  have a2 := h.oG.ltB
  have a3 := h.gr.size
  have a4 := h.lN
  have a5 := h.dNF
  have a6 := h.dNG
  have hw' : gN = g ∨ g = W.heap.size := by simpa using hw
  exact ⟨ho, h.oF.kept hg (by simp [blk]; omega), h.oG.kept hg (by simp [blk]; omega), by omega, h.lF, h.lG, by omega, by omega, h.dFG, grownBy_then h.gr hg (by simp) (by simp; omega)⟩
theorem Mid.appF {W2 W W' : World} {gN gF gG nN cN nF cF nG cG g c n' : Nat} {xN xF xG xs : List Value} (h : Mid W2 W gN gF gG nN cN nF cF nG cG xN xF xG) (hg : W.grownBy W' (some gF)) (ho : Own W' 57 2 (some ⟨g, 0, none⟩) n' c xs) (hw : some (⟨gF, 0, none⟩ : Addr) = some ⟨g, 0, none⟩ ∨ g = W.heap.size) :
    Mid W2 W' gN g gG nN cN n' c nG cG xN xs xG := by
  have a1 := h.oN.ltB
  have a2 := h.oG.ltB
  have a3 := h.gr.size
  have a4 := h.lF
  have a5 := h.dNF
  have a6 := h.dFG
  have hw' : gF = g ∨ g = W.heap.size := by simpa using hw
  exact ⟨h.oN.kept hg (by simp [blk]; omega), ho, h.oG.kept hg (by simp [blk]; omega), h.lN, by omega, h.lG, by omega, h.dNG, by omega, grownBy_then h.gr hg (by simp) (by simp; omega)⟩
theorem Mid.appG {W2 W W' : World} {gN gF gG nN cN nF cF nG cG g c n' : Nat} {xN xF xG xs : List Value} (h : Mid W2 W gN gF gG nN cN nF cF nG cG xN xF xG) (hg : W.grownBy W' (some gG)) (ho : Own W' 60 1 (some ⟨g, 0, none⟩) n' c xs) (hw : some (⟨gG, 0, none⟩ : Addr) = some ⟨g, 0, none⟩ ∨ g = W.heap.size) :
    Mid W2 W' gN gF g nN cN nF cF n' c xN xF xs := by
  have a1 := h.oN.ltB
  have a2 := h.oF.ltB
  have a3 := h.gr.size
  have a4 := h.lG
  have a5 := h.dNG
  have a6 := h.dFG
  have hw' : gG = g ∨ g = W.heap.size := by simpa using hw
  exact ⟨h.oN.kept hg (by simp [blk]; omega), h.oF.kept hg (by simp [blk]; omega), ho, h.lN, h.lF, by omega, h.dNF, by omega, by omega, grownBy_then h.gr hg (by simp) (by simp; omega)⟩

theorem mid_start (W2 : World) (t : Nat) (ht : t ≤ maxLen) : Mid W2 (((W2.alloc (.cells (madeCells #[.string ByteArray.empty] t) 9)).alloc (.cells (madeCells #[.int .i64 0, .slice none 0 0] 2) 57)).alloc (.cells (madeCells #[.slice none 0 0] 1) 60)).drew W2.heap.size (W2.heap.size + 1) (W2.heap.size + 1 + 1) 0 t 0 1 0 1 [] [] [] := by
  generalize hA : W2.alloc (.cells (madeCells #[.string ByteArray.empty] t) 9) = WA
  generalize hB : WA.alloc (.cells (madeCells #[.int .i64 0, .slice none 0 0] 2) 57) = WB
  generalize hC : WB.alloc (.cells (madeCells #[.slice none 0 0] 1) 60) = WC
  have gA : W2.grownBy WA none := by rw [← hA]; exact World.grownBy_alloc _ _ _
  have gB : WA.grownBy WB none := by rw [← hB]; exact World.grownBy_alloc _ _ _
  have gC : WB.grownBy WC none := by rw [← hC]; exact World.grownBy_alloc _ _ _
  have gD : WC.grownBy WC.drew none := ⟨rfl, rfl, rfl, Nat.le_refl _, fun _ _ _ => rfl⟩
  have sA : WA.heap.size = W2.heap.size + 1 := by rw [← hA]; simp
  have sB : WB.heap.size = W2.heap.size + 1 + 1 := by rw [← hB]; simp [sA]
  have o1 : Own WA 9 1 (some ⟨W2.heap.size, 0, none⟩) 0 t [] := by
    rw [← hA]
    exact Own.mk (heap_alloc_new W2 _) (Nat.zero_le _) ht (by rw [size_madeCells, Nat.mul_one]) rfl
  have o2 : Own WB 57 2 (some ⟨W2.heap.size + 1, 0, none⟩) 0 1 [] := by
    rw [← hB, ← sA]
    exact Own.mk (heap_alloc_new WA _) (Nat.zero_le _) (by unfold maxLen; omega) (by rw [size_madeCells]) rfl
  have o3 : Own WC 60 1 (some ⟨W2.heap.size + 1 + 1, 0, none⟩) 0 1 [] := by
    rw [← hC, ← sB]
    exact Own.mk (heap_alloc_new WB _) (Nat.zero_le _) (by unfold maxLen; omega) (by rw [size_madeCells]) rfl
  refine ⟨((o1.kept gB (by simp)).kept gC (by simp)).kept gD (by simp), (o2.kept gC (by simp)).kept gD (by simp), o3.kept gD (by simp), by omega, by omega, by omega, by omega, by omega, by omega, ?_⟩
  have g1 : W2.grownBy WB none := grownBy_then gA gB (by simp) (by simp)
  have g2 : W2.grownBy WC none := grownBy_then g1 gC (by simp) (by simp)
  exact grownBy_then g2 gD (by simp) (by simp)

def nms (p : Procs) (n i q : Nat) : List Value := (List.range q).map fun j => .string (nameOf (p.nm (p.td i j % n).toNat))
theorem nms_succ (p : Procs) (n i q : Nat) : nms p n i (q + 1) = nms p n i q ++ [.string (nameOf (p.nm (p.td i q % n).toNat))] := by simp [nms, List.range_succ]

theorem cellAt {w : World} {g : Nat} {k : Array Value} {t : TypeId} {s : Nat × Nat} (h : w.heap[g]? = some (.cells k t s)) (j : Nat) : w.cell? ⟨g, j, none⟩ = k[j]? := by simp only [World.cell?, h]; rfl

theorem Own.at {w : World} {e : TypeId} {size g n c : Nat} {xs : List Value} (h : Own w e size (some ⟨g, 0, none⟩) n c xs) : ∃ k : Array Value, w.heap[g]? = some (.cells k e (0, 0)) ∧ ∀ (j : Nat) (u : Value), xs[j]? = some u → k[j]? = some u := by
  rcases h.shape with ⟨h0, _⟩ | ⟨g', k, he, hh, _⟩
  · cases h0
  · cases he
    exact ⟨k, hh, fun j u hu => by rw [← cellAt hh j]; exact h.cell hu⟩

theorem cond_final {W2 w8 : World} {x gN g7 g8 q cN cap7 cap8 n i : Nat} {p : Procs} {v : Value} (h : Mid W2 w8 gN g7 g8 q cN 1 cap7 1 cap8 (nms p n i q) [.int .i64 (p.nd i), .slice (some ⟨gN, 0, none⟩) q q] [.slice (some ⟨g7, 0, none⟩) 1 1]) (hlt : x < W2.heap.size) (hw : p.wt i = true) (ht : p.tl i = q) :
    CondOk (w8.setCell ⟨x, 0, none⟩ v) n p i (.agg #[.slice (some ⟨g8, 0, none⟩) 1 cap8]) := by
  have hl1 := h.lN
  have hl2 := h.lF
  have hl3 := h.lG
  have hc : ∀ g, W2.heap.size ≤ g → (w8.setCell ⟨x, 0, none⟩ v).heap[g]? = w8.heap[g]? := fun g hg => Below.heap_setCell _ _ _ _ (fun e => by have e' : g = x := e; omega)
  obtain ⟨k1, a1, b1⟩ := h.oG.at
  obtain ⟨k2, a2, b2⟩ := h.oF.at
  obtain ⟨k3, a3, b3⟩ := h.oN.at
  refine .inr ⟨hw, g8, cap8, g7, 1, gN, q, k1, k2, k3, rfl, (hc _ hl3).trans a1, (hc _ hl2).trans a2, (hc _ hl1).trans a3, b1 0 _ rfl, b2 0 _ rfl, by rw [ht]; exact b2 1 _ rfl, fun j hj => ?_⟩
  rw [ht] at hj
  exact b3 j _ (by simp [nms, hj])

section
variable {w : World} {sb gb : Nat} {b : Nat → Nat} {n m : Nat} {p : Procs} {dec : Nat → Int} {A : Nat → Option Addr} {C : Nat → Nat} {ad : Option Addr} {cd : Nat}

set_option maxRecDepth 100000 in
theorem wait_runs (h : Snap w sb gb b n m p dec A C ad cd) (i : Nat) (hi : i < n) (hw : p.wt i = false) :
    Calls Yba.prog 34 #[.pointer (some ⟨gb, 0, none⟩), .int .i32 i, .pointer (some ⟨sb, 0, none⟩)] w (waitR w n p i) := by
  have hg := World.grownBy_alloc w (.cells #[.slice none 0 0] 48) none
  have HG : Hid (w.grownBy (w.alloc (.cells #[.slice none 0 0] 48)) none) := hg
  have HS := (show Hid _ from h.later (below_of_grown hg))
  have hr := heap_alloc_new w (.cells #[.slice none 0 0] 48)
  have k0 : (w.alloc (.cells #[.slice none 0 0] 48)).cell? ⟨w.heap.size, 0, none⟩ = some (.slice none 0 0) := by simp only [World.cell?, hr]; rfl
  have k1 : (w.alloc (.cells #[.slice none 0 0] 48)).frozen? ⟨w.heap.size, 0, none⟩ = false := by simp only [World.frozen?, hr]; rfl
  have e1 : fgv p i = 0 := by simp [fgv, hw]
  have e2 : egv p i = 0 := by simp [egv, hw]
  clear hg h hr
  have HW : Hid (p.wt i = false) := hw
  clear hw
  go_enter Yba.func34, Yba.ntmps34
  go_wp2_with fail
  generalize (w.alloc (.cells #[.slice none 0 0] 48)) = W1 at *
  refine (groups_any HS.out i hi).mono ?_
  rintro e w1 ⟨rfl, q, rfl⟩
  rw [e1, e2]
  have k2 : (W1.drewN q).cell? ⟨w.heap.size, 0, none⟩ = some (.slice none 0 0) := k0
  have k3 : (W1.drewN q).frozen? ⟨w.heap.size, 0, none⟩ = false := k1
  have HG2 : Hid (w.grownBy (W1.drewN q) none) := ⟨HG.out.os, HG.out.tape, HG.out.output, HG.out.size, HG.out.block⟩
  clear e1 e2 k0 k1 HS HG
  generalize W1.drewN q = W2 at *
  go_wp2_with fail
  have kk := W2.cell?_setCell_same ⟨w.heap.size, 0, none⟩ (.slice none 0 0) k2
  refine bodyPost_ret (v := .agg #[.slice none 0 0]) ?_ rfl ?_
  · simp [results, Yba.results34, go_sem, kk]
  · exact ⟨_, rfl, .inl ⟨HW.out, rfl⟩, grownBy_then HG2.out (grownBy_setCell _ _ _) (by simp) (by simp)⟩

set_option maxHeartbeats 4000000 in
set_option maxRecDepth 100000 in
theorem wait_waits (h : Snap w sb gb b n m p dec A C ad cd) (i : Nat) (hi : i < n) (hw : p.wt i = true) (hn : n ≤ 1024) (hLs : ∀ i, i < n → p.tl i ≤ 1024) (hnd : 0 ≤ p.nd i ∧ p.nd i ≤ 255) :
    Calls Yba.prog 34 #[.pointer (some ⟨gb, 0, none⟩), .int .i32 i, .pointer (some ⟨sb, 0, none⟩)] w (waitR w n p i) := by
  obtain ⟨i9, h90, h91, h92, h93⟩ := info_parts Yba.info9
  obtain ⟨i57, h570, h571, h572, h573⟩ := info_parts Yba.info57
  obtain ⟨i60, h600, h601, h602, h603⟩ := info_parts Yba.info60
  have hg := World.grownBy_alloc w (.cells #[.slice none 0 0] 48) none
  have HG : Hid (w.grownBy (w.alloc (.cells #[.slice none 0 0] 48)) none) := hg
  have HS := (show Hid _ from h.later (below_of_grown hg))
  have HR : Hid ((w.alloc (.cells #[.slice none 0 0] 48)).heap[w.heap.size]? = some (.cells #[.slice none 0 0] 48)) := heap_alloc_new w (.cells #[.slice none 0 0] 48)
  have e1 : fgv p i = cw p i := by simp [fgv, hw]
  have e2 : egv p i = cw p i + 1 := by simp [egv, hw]
  clear hg h
  have HW : Hid (p.wt i = true) := hw
  have hcw := cw_mono p (i + 1) n (by omega)
  have e3 : cw p (i + 1) = cw p i + 1 := by simp [cw, hw]
  have hcn := cw_le p n
  rw [e3] at hcw
  clear hw e3
  go_enter Yba.func34, Yba.ntmps34
  go_wp2_with fail
  generalize (w.alloc (.cells #[.slice none 0 0] 48)) = W1 at *
  refine (groups_any HS.out i hi).mono ?_
  rintro e w1 ⟨rfl, q, rfl⟩
  rw [e1, e2]
  have HG2 : Hid (w.grownBy (W1.drewN q) none) := ⟨HG.out.os, HG.out.tape, HG.out.output, HG.out.size, HG.out.block⟩
  have HR2 : Hid ((W1.drewN q).heap[w.heap.size]? = some (.cells #[.slice none 0 0] 48)) := HR.out
  have HS2 := (show Hid _ from HS.out.later (w' := W1.drewN q) ⟨rfl, rfl, rfl, Nat.le_refl _, fun _ _ => rfl⟩)
  clear e1 e2 HS HG HR
  generalize W1.drewN q = W2 at *
  have hL := hLs i hi
  have HLs : Hid (∀ i, i < n → p.tl i ≤ 1024) := hLs
  clear hLs
  obtain ⟨B, o, L, hLL, c0, c1, g2⟩ : ∃ B o L, L ≤ 1048576 ∧ W2.cell? ⟨B, o + cw p i, none⟩ = some (.int .i32 (L : Nat)) ∧ W2.cell? ⟨B, o + (cw p i + 1), none⟩ = some (.int .i32 ((L : Int) + p.tl i)) ∧ W2.cell? ⟨gb, 2, none⟩ = some (.slice (some ⟨B, o, none⟩) (cw p n + 1) (C 0)) := by
    rcases HS2.out.fn with h | ⟨B, o, e, _, hF⟩
    · omega
    · have c0 := hF (cw p i) (by omega)
      have c1 := hF (cw p i + 1) (by omega)
      simp only [] at c0 c1
      rw [fns_at p n i n (by omega)] at c0
      rw [fns_next p n i n hi HW.out] at c1
      have := tgs_length_le p n HLs.out i (by omega)
      exact ⟨B, o, _, by omega, c0, c1, by rw [← e]; exact HS2.out.g2⟩
  have hmk := run_make_mine (P := Yba.prog) 55 9 (.string ByteArray.empty) 1 16 Yba.underlying55 Yba.info9 .i64 .i32 (p.tl i) ((L : Int) + p.tl i - L) (by omega) (by omega) (by omega)
  go_upto_region 4 with fail
  go_region
  clear hmk c0 c1 g2
  go_upto_region 7 with (at_make; first | refine wpList_make_mine _ rfl (.const (.int .i64 0)) (.tmp 47) 58 rfl 57 i57 (.agg #[.int .i64 0, .slice none 0 0]) 2 32 Yba.underlying58 h570 h571 h572 h573 .i64 .i32 0 1 _ _ rfl rfl rfl (by omega) (by omega) (by omega) (by omega) ?_ | refine wpList_make_mine _ rfl (.const (.int .i64 0)) (.tmp 51) 46 rfl 60 i60 (.agg #[.slice none 0 0]) 1 24 Yba.underlying46 h600 h601 h602 h603 .i64 .i32 0 1 _ _ rfl rfl rfl (by omega) (by omega) (by omega) (by omega) ?_)
  have HM : Hid (Mid W2 (((W2.alloc (.cells (madeCells #[.string ByteArray.empty] (p.tl i)) 9)).alloc (.cells (madeCells #[.int .i64 0, .slice none 0 0] 2) 57)).alloc (.cells (madeCells #[.slice none 0 0] 1) 60)).drew W2.heap.size (W2.heap.size + 1) (W2.heap.size + 1 + 1) 0 (p.tl i) 0 1 0 1 [] [] []) := mid_start W2 (p.tl i) (by unfold maxLen; omega)
  generalize (((W2.alloc (.cells (madeCells #[.string ByteArray.empty] (p.tl i)) 9)).alloc (.cells (madeCells #[.int .i64 0, .slice none 0 0] 2) 57)).alloc (.cells (madeCells #[.slice none 0 0] 1) 60)).drew = W3 at *
  generalize W2.heap.size + 1 + 1 = gG at *
  generalize W2.heap.size + 1 = gF at *
  obtain ⟨gN, hgN⟩ : ∃ x, W2.heap.size = x := ⟨_, rfl⟩
  rw [hgN] at HM ⊢
  clear hgN
  go_wp2_with fail
  refine wp_loop_rounds 2 ?_
  rw [rounds_succ]
  go_wp2_with fail
  refine (factorsEnd_any (HS2.out.later (below_of_grown HM.out.gr)) (cw p i) (by omega) (by omega)).mono ?_
  rintro e w' ⟨rfl, hw⟩
  have hw2 := hw.symm
  subst hw2
  clear hw
  go_wp2_with fail
  refine wp_loop_rounds 2 ?_
  rw [rounds_succ]
  go_wp2_with fail
  refine (names_any (HS2.out.later (below_of_grown HM.out.gr)) i hi HW.out hn).mono ?_
  rintro e w' ⟨cT, qT, rfl, hw⟩
  subst hw
  have HM1 : Hid (Mid W2 (W3.drewN qT) gN gF gG 0 (p.tl i) 0 1 0 1 (nms p n i 0) [] []) := HM.out.later ⟨rfl, rfl, rfl, Nat.le_refl _, fun _ _ _ => rfl⟩
  have HT : Hid (In1 W2 (tgA A C p n i) (p.tl i) (fun j => .int .i32 (p.td i j % n))) := tg_in1 HS2.out i hi HW.out
  clear HM
  generalize tgA A C p n i = aT at *
  generalize W3.drewN qT = W4 at *
  go_wp2_with fail
  generalize htl : p.tl i = tl at *
  have Htl : Hid (p.tl i = tl) := htl
  clear htl
  have hn0 : 0 < n := by omega
  go_loopw [9, 72] (fun s9 x wr => ∃ (q gN cN : Nat), q ≤ tl ∧ x = .int .i64 q ∧ s9 = .slice (some ⟨gN, 0, none⟩) q cN ∧ Mid W2 wr gN gF gG q cN 0 1 0 1 (nms p n i q) [] []) (fun _ x _ => tl - (intOf x).toNat)
  case atStart => exact ⟨0, gN, _, Nat.zero_le _, rfl, rfl, HM1.out⟩
  case round =>
    obtain ⟨q, gN, cN, hq, rfl, rfl, hM⟩ := hrel
    have HM : Hid (Mid W2 wr gN gF gG q cN 0 1 0 1 (nms p n i q) [] []) := hM
    clear hM HM1
    have HSr := (show Hid _ from HS2.out.later (below_of_grown HM.out.gr))
    by_cases hql : q < tl
    · obtain ⟨bt, ot, rfl, hct⟩ : ∃ b o, aT = some ⟨b, o, none⟩ ∧ wr.cell? ⟨b, o + q, none⟩ = some (.int .i32 (p.td i q % n)) := by
        rcases HT.out.below (below_of_grown HM.out.gr) with h | ⟨b, o, h1, _, h2⟩
        · omega
        · exact ⟨b, o, h1, h2 q hql⟩
      have hm1 : 0 ≤ p.td i q % (n : Int) := Int.emod_nonneg _ (by omega)
      have hm2 : p.td i q % (n : Int) < n := Int.emod_lt_of_pos _ (by omega)
      obtain ⟨x, hx⟩ : ∃ x : Nat, p.td i q % (n : Int) = x := ⟨(p.td i q % (n : Int)).toNat, by omega⟩
      have HX : Hid (p.td i q % (n : Int) = x) := hx
      rw [hx] at hct hm1 hm2
      clear hx
      go_wp2_with fail
      refine (nameOf_any HSr.out x (by omega)).mono ?_
      rintro e w5 ⟨rfl, hgr5⟩
      have HM5 : Hid (Mid W2 w5 gN gF gG q cN 0 1 0 1 (nms p n i q) [] []) := HM.out.later hgr5
      clear hct HM HSr hgr5
      generalize hnm : nameOf (p.nm x) = s at *
      have Hnm : Hid (nameOf (p.nm x) = s) := hnm
      clear hnm
      go_wp2_with (at_builtin; refine wpList_append_mine _ rfl (.tmp 76) (.tmp 80) 55 rfl 9 i9 (.string ByteArray.empty) 1 16 Yba.underlying55 h90 h91 h92 h93 rfl (by decide) (some ⟨gN, 0, none⟩) q cN (nms p n i q) rfl (HM5.out.oN.kept (World.grownBy_alloc w5 (.cells #[.string s] 9) none) (by simp)) ⟨w5.heap.size, 0, none⟩ 1 1 (by decide) [.string s] rfl rfl (cell_lit rfl) (by simp [Value.oneCell']) (by unfold maxLen; omega) (by omega) ?_; intro g4 cap4 w4 ho4 hgr4 hw4)
      have HM6 := (show Hid _ from (HM5.out.later (World.grownBy_alloc w5 (.cells #[.string s] 9) none)).appN hgr4 ho4 hw4)
      clear ho4 hgr4 hw4
      go_roundw
      case rel => exact ⟨q + 1, g4, cap4, by omega, by go_num, rfl, by rw [nms_succ, HX.out, Int.toNat_natCast, Hnm.out]; exact HM6.out⟩
      case measure => simp [intOf]; omega
    · obtain rfl : q = tl := by omega
      obtain ⟨B2, o2, e2, k4⟩ : ∃ B2 o2, A 2 = some ⟨B2, o2, none⟩ ∧ wr.cell? ⟨B2, o2 + cw p i, none⟩ = some (.int .i32 (p.nd i)) := by
        rcases HSr.out.nd with h | ⟨g, o, e, _, hc⟩
        · omega
        · have := hc (cw p i) (by omega)
          simp only [] at this
          rw [nds_at p i n hi HW.out] at this
          exact ⟨g, o, e, this⟩
      have g4 := HSr.out.g4
      rw [e2] at g4
      clear e2
      have hnd0 := hnd.1
      have hnd1 := hnd.2
      have hqc := HM.out.oN.le
      have hcl : cw p i < cw p n := by omega
      have gD : wr.grownBy (wr.alloc (.cells #[.int .i64 (IntKind.i64.wrap (p.nd i)), .slice (some ⟨gN, 0, none⟩) q q] 57)).drew none := grownBy_then (World.grownBy_alloc wr _ none) ⟨rfl, rfl, rfl, Nat.le_refl _, fun _ _ _ => rfl⟩ (r' := none) (by simp) (by simp)
      have HF : Hid (Own (wr.alloc (.cells #[.int .i64 (IntKind.i64.wrap (p.nd i)), .slice (some ⟨gN, 0, none⟩) q q] 57)).drew 57 2 (some ⟨gF, 0, none⟩) 0 1 []) := HM.out.oF.kept gD (by simp)
      have HC : Hid (∀ j u, [Value.int .i64 (IntKind.i64.wrap (p.nd i)), .slice (some ⟨gN, 0, none⟩) q q][j]? = some u → (wr.alloc (.cells #[.int .i64 (IntKind.i64.wrap (p.nd i)), .slice (some ⟨gN, 0, none⟩) q q] 57)).drew.cell? ((⟨wr.heap.size, 0, none⟩ : Addr).add j) = some u) := cells_two_new wr _ _ 57
      have HM7 : Hid (Mid W2 (wr.alloc (.cells #[.int .i64 (IntKind.i64.wrap (p.nd i)), .slice (some ⟨gN, 0, none⟩) q q] 57)).drew gN gF gG q cN 0 1 0 1 (nms p n i q) [] []) := HM.out.later gD
      clear gD
      go_upto_region 19 with fail
      go_region_law (refine step_append_mine rfl (.tmp 83) (.tmp 100) 58 rfl 57 i57 (.agg #[.int .i64 0, .slice none 0 0]) 2 32 Yba.underlying58 h570 h571 h572 h573 rfl (by decide) (some ⟨gF, 0, none⟩) 0 1 [] rfl HF.out ⟨wr.heap.size, 0, none⟩ 1 1 (by decide) [.int .i64 (IntKind.i64.wrap (p.nd i)), .slice (some ⟨gN, 0, none⟩) q q] rfl rfl HC.out (by simp [Value.oneCell']) (by unfold maxLen; omega) (by omega) ?_; intro g7 cap7 w7 ho7 hgr7 hw7)
      have HM8 : Hid (Mid W2 w7 gN g7 gG q cN 1 cap7 0 1 (nms p n i q) [.int .i64 (p.nd i), .slice (some ⟨gN, 0, none⟩) q q] []) := by
        have := HM7.out.appF hgr7 ho7 hw7
        have e : IntKind.i64.wrap (p.nd i) = p.nd i := by rw [IntKind.wrap_i64]; omega
        rw [e] at this
        exact this
      have hcap7 := HM8.out.oF.le
      clear ho7 hgr7 hw7 HM7 HF HC k4 g4 HM
      go_wp2_with fail
      rw [rounds_succ]
      go_wp2_with (at_builtin; refine wpList_append_mine _ rfl (.tmp 104) (.tmp 116) 46 rfl 60 i60 (.agg #[.slice none 0 0]) 1 24 Yba.underlying46 h600 h601 h602 h603 rfl (by decide) (some ⟨gG, 0, none⟩) 0 1 [] rfl (HM8.out.oG.kept (World.grownBy_alloc w7 (.cells #[.slice (some ⟨g7, 0, none⟩) 1 1] 60) none) (by simp)) ⟨w7.heap.size, 0, none⟩ 1 1 (by decide) [.slice (some ⟨g7, 0, none⟩) 1 1] rfl rfl (cell_lit rfl) (by simp [Value.oneCell']) (by unfold maxLen; omega) (by omega) ?_; intro g8 cap8 w8 ho8 hgr8 hw8)
      have HM9 : Hid (Mid W2 w8 gN g7 g8 q cN 1 cap7 1 cap8 (nms p n i q) [.int .i64 (p.nd i), .slice (some ⟨gN, 0, none⟩) q q] [.slice (some ⟨g7, 0, none⟩) 1 1]) := (HM8.out.later (World.grownBy_alloc w7 (.cells #[.slice (some ⟨g7, 0, none⟩) 1 1] 60) none)).appG hgr8 ho8 hw8
      clear HM8 ho8 hgr8 hw8
      have hlt : w.heap.size < W2.heap.size := (Array.getElem?_eq_some_iff.1 HR2.out).1
      have hr : w8.heap[w.heap.size]? = some (.cells #[.slice none 0 0] 48) := (HM9.out.gr.block _ hlt (by simp)).trans HR2.out
      have k0 : w8.cell? ⟨w.heap.size, 0, none⟩ = some (.slice none 0 0) := by simp only [World.cell?, hr]; rfl
      have k1 : w8.frozen? ⟨w.heap.size, 0, none⟩ = false := by simp only [World.frozen?, hr]; rfl
      clear hr
      rw [rounds_succ]
      go_wp2_with fail
      have kk := w8.cell?_setCell_same ⟨w.heap.size, 0, none⟩ (.slice (some ⟨g8, 0, none⟩) 1 cap8) k0
      refine bodyPost_ret (v := .agg #[.slice (some ⟨g8, 0, none⟩) 1 cap8]) ?_ rfl ?_
      · simp [results, Yba.results34, go_sem, kk]
      · refine ⟨_, rfl, cond_final HM9.out hlt HW.out Htl.out, ?_⟩
        exact grownBy_then (grownBy_then HG2.out HM9.out.gr (r' := none) (q := none) (by simp) (by simp)) (grownBy_setCell _ _ _) (by simp) (by simp)
end
end Go.Proofs.Ybulkaqbo
