import Derived.Test.YbulkaqboB7
namespace Go.Proofs.Ybulkaqbo
open Go.RowKit

theorem CondOk.shape {w : World} {n : Nat} {p : Procs} {i : Nat} {v : Value} (h : CondOk w n p i v) : ∃ a l c, v = .agg #[.slice a l c] := by
  rcases h with ⟨_, rfl⟩ | ⟨_, _, _, _, _, _, _, _, _, _, rfl, _⟩
  · exact ⟨_, _, _, rfl⟩
  · exact ⟨_, _, _, rfl⟩

theorem CondOk.kept {w w' : World} {n : Nat} {p : Procs} {i : Nat} {v : Value} {row : Option Nat} (h : CondOk w n p i v) (hg : w.grownBy w' row) (hr : ∀ g k t, row = some g → w.heap[g]? = some (.cells k t (0, 0)) → t ≠ 60 ∧ t ≠ 57 ∧ t ≠ 9) : CondOk w' n p i v := by
  rcases h with h | ⟨hw, gg, cg, gf, cf, gn, cn, k1, k2, k3, rfl, h1, h2, h3, h4⟩
  · exact .inl h
  · refine .inr ⟨hw, gg, cg, gf, cf, gn, cn, k1, k2, k3, rfl, ?_, ?_, ?_, h4⟩
    · exact (hg.block gg (Array.getElem?_eq_some_iff.1 h1).1 (fun e => (hr gg k1 60 e.symm h1).1 rfl)).trans h1
    · exact (hg.block gf (Array.getElem?_eq_some_iff.1 h2).1 (fun e => (hr gf k2 57 e.symm h2).2.1 rfl)).trans h2
    · exact (hg.block gn (Array.getElem?_eq_some_iff.1 h3).1 (fun e => (hr gn k3 9 e.symm h3).2.2 rfl)).trans h3

theorem CondOk.below {w w' : World} {n : Nat} {p : Procs} {i : Nat} {v : Value} (h : CondOk w n p i v) (hb : Below w.heap.size w w') : CondOk w' n p i v := by
  rcases h with h | ⟨hw, gg, cg, gf, cf, gn, cn, k1, k2, k3, rfl, h1, h2, h3, h4⟩
  · exact .inl h
  · have key : ∀ (g : Nat) (o : Obj), w.heap[g]? = some o → w'.heap[g]? = some o := fun g o ho => (hb.block g (Array.getElem?_eq_some_iff.1 ho).1).trans ho
    exact .inr ⟨hw, gg, cg, gf, cf, gn, cn, k1, k2, k3, rfl, key _ _ h1, key _ _ h2, key _ _ h3, h4⟩

theorem CondOk.stored {w : World} {n : Nat} {p : Procs} {i x : Nat} {v u : Value} {k : Array Value} (h : CondOk w n p i v) (hx : w.heap[x]? = some (.cells k 48 (0, 0))) : CondOk (w.setCell ⟨x, 0, none⟩ u) n p i v := by
  refine h.kept (grownBy_setCell w _ _) (fun g k' t e hg => ?_)
  have e' : x = g := Option.some.inj e
  subst e'
  rw [hx] at hg
  cases hg
  decide

section
variable {w : World} {sb gb : Nat} {b : Nat → Nat} {n m : Nat} {p : Procs} {dec : Nat → Int} {A : Nat → Option Addr} {C : Nat → Nat} {ad : Option Addr} {cd : Nat}

theorem wait_any (h : Snap w sb gb b n m p dec A C ad cd) (i : Nat) (hi : i < n) (hn : n ≤ 1024) (hLs : ∀ i, i < n → p.tl i ≤ 1024) (hnd : 0 ≤ p.nd i ∧ p.nd i ≤ 255) :
    Calls Yba.prog 34 #[.pointer (some ⟨gb, 0, none⟩), .int .i32 i, .pointer (some ⟨sb, 0, none⟩)] w (waitR w n p i) := by
  cases hw : p.wt i with
  | false => exact wait_runs h i hi hw
  | true => exact wait_waits h i hi hw hn hLs hnd

set_option maxHeartbeats 1000000 in
set_option maxRecDepth 100000 in
/-- (*Snapshot).wait. -/
theorem waitS_any (h : Snap w sb gb b n m p dec A C ad cd) (i : Nat) (hi : i < n) (hn : n ≤ 1024) (hLs : ∀ i, i < n → p.tl i ≤ 1024) (hnd : 0 ≤ p.nd i ∧ p.nd i ≤ 255) :
    Calls Yba.prog 30 #[.pointer (some ⟨sb, 0, none⟩), .int .i32 i] w (waitR w n p i) := by
  have HLs : Hid (∀ i, i < n → p.tl i ≤ 1024) := hLs
  clear hLs
  have hg := World.grownBy_alloc w (.cells #[.slice none 0 0] 48) none
  have HG : Hid (w.grownBy (w.alloc (.cells #[.slice none 0 0] 48)) none) := hg
  have HS := (show Hid _ from h.later (below_of_grown hg))
  have HR : Hid ((w.alloc (.cells #[.slice none 0 0] 48)).heap[w.heap.size]? = some (.cells #[.slice none 0 0] 48)) := heap_alloc_new w (.cells #[.slice none 0 0] 48)
  clear hg h
  have s6 := HS.out.s6
  have HS2 := (show Hid _ from HS.out.later (w' := (w.alloc (.cells #[.slice none 0 0] 48)).drew) ⟨rfl, rfl, rfl, Nat.le_refl _, fun _ _ => rfl⟩)
  go_enter Yba.func30, Yba.ntmps30
  go_wp2_with fail
  generalize (w.alloc (.cells #[.slice none 0 0] 48)) = W1 at *
  go_region_with (refine (wait_any HS2.out i hi hn HLs.out hnd).mono ?_; rintro e w1 ⟨v, rfl, hC, hgr⟩; obtain ⟨a, l, c, rfl⟩ := hC.shape; have HC1 := (show Hid (CondOk _ _ _ _ _) from hC); have HG1 := (show Hid (World.grownBy _ _ _) from hgr); have hlt : w.heap.size < W1.heap.size := (Array.getElem?_eq_some_iff.1 HR.out).1; have hr : w1.heap[w.heap.size]? = some (.cells #[.slice none 0 0] 48) := (hgr.block _ hlt (by simp)).trans HR.out; have k0 : w1.cell? ⟨w.heap.size, 0, none⟩ = some (.slice none 0 0) := by { simp only [World.cell?, hr]; rfl }; have k1 : w1.frozen? ⟨w.heap.size, 0, none⟩ = false := by { simp only [World.frozen?, hr]; rfl }; clear hC hgr; have HR1 : Hid (w1.heap[w.heap.size]? = some (.cells #[.slice none 0 0] 48)) := hr; clear hr)
  all_goals go_wp2_with fail
  have kk := w1.cell?_setCell_same ⟨w.heap.size, 0, none⟩ (.slice a l c) k0
  refine bodyPost_ret (v := .agg #[.slice a l c]) ?_ rfl ?_
  · simp [results, Yba.results30, go_sem, kk]
  · refine ⟨_, rfl, HC1.out.stored HR1.out, ?_⟩
    have g1 : w.grownBy W1.drew none := ⟨HG.out.os, HG.out.tape, HG.out.output, HG.out.size, HG.out.block⟩
    exact grownBy_then (grownBy_then g1 HG1.out (q := none) (by simp) (by simp)) (grownBy_setCell _ _ _) (by simp) (by simp)
end
end Go.Proofs.Ybulkaqbo
