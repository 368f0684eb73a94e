import Derived.Test.YbulkaqboB11
namespace Go.Proofs.Ybulkaqbo
open Go.RowKit

theorem name_quiet (i : Int) (h0 : 0 ≤ i) (h1 : i ≤ 255) (w : World) : Calls Yba.prog 16 #[.int .u8 i] w fun e w' => e = .returned (.string (nameOf i)) ∧ ∃ q, w' = w.drewN q :=
  (name_any i h0 h1 w).mono fun _ _ h => ⟨h.1, 0, h.2⟩

set_option maxHeartbeats 2000000 in
set_option maxRecDepth 100000 in
theorem waitok_runs (w : World) (n : Int) (nm ln nd : Int) (ta : Option Addr) (tl tc : Nat) :
    Calls Yba.prog 17 #[.agg #[.slice none 0 0], .agg #[.int .u8 nm, .int .i64 ln, .bool false, .int .u8 nd, .slice ta tl tc], .int .i64 n] w fun e w' => e = .returned (.bool true) ∧ w.grownBy w' none := by
  go_enter Yba.func17, Yba.ntmps17
  go_wp2_with fail
  go_ret
  exact ⟨by simp, grownBy_then (World.grownBy_alloc _ _ none) (World.grownBy_alloc _ _ none) (by simp) (by simp)⟩

set_option maxHeartbeats 2000000 in
set_option maxRecDepth 100000 in
theorem waitok_waits (w : World) (N : Int) (nm ln nd : Int) (ta : Option Addr) (tl tc gg cg gf cf gn cn : Nat) (V : Nat → ByteArray) (h1 : w.cell? ⟨gg, 0, none⟩ = some (.slice (some ⟨gf, 0, none⟩) 1 cf)) (h2 : w.cell? ⟨gf, 0, none⟩ = some (.int .i64 nd))
    (h3 : w.cell? ⟨gf, 1, none⟩ = some (.slice (some ⟨gn, 0, none⟩) tl cn)) (h4 : ∀ j, j < tl → w.cell? ⟨gn, j, none⟩ = some (.string (V j))) (hnd : 0 ≤ nd ∧ nd ≤ 255) (htl : tl ≤ 1024) :
    Calls Yba.prog 17 #[.agg #[.slice (some ⟨gg, 0, none⟩) 1 cg], .agg #[.int .u8 nm, .int .i64 ln, .bool true, .int .u8 nd, .slice ta tl tc], .int .i64 N] w fun e w' => e = .returned (.bool true) ∧ w.grownBy w' none := by
  have hnd1 := hnd.1
  have hnd2 := hnd.2
  have g1 : w.grownBy ((w.alloc (.cells #[.slice (some ⟨gg, 0, none⟩) 1 cg] 48)).alloc (.cells #[.int .u8 nm, .int .i64 ln, .bool true, .int .u8 nd, .slice ta tl tc] 52)) none := grownBy_then (World.grownBy_alloc _ _ none) (World.grownBy_alloc _ _ none) (by simp) (by simp)
  have k1 := cellLater (below_of_grown g1) h1
  have k2 := cellLater (below_of_grown g1) h2
  have k3 := cellLater (below_of_grown g1) h3
  have hB := heap_alloc_new (w.alloc (.cells #[.slice (some ⟨gg, 0, none⟩) 1 cg] 48)) (.cells #[.int .u8 nm, .int .i64 ln, .bool true, .int .u8 nd, .slice ta tl tc] 52)
  rw [World.size_alloc] at hB
  have hA : ((w.alloc (.cells #[.slice (some ⟨gg, 0, none⟩) 1 cg] 48)).alloc (.cells #[.int .u8 nm, .int .i64 ln, .bool true, .int .u8 nd, .slice ta tl tc] 52)).heap[w.heap.size]? = some (.cells #[.slice (some ⟨gg, 0, none⟩) 1 cg] 48) := (Below.heap_alloc _ _ _ (by simp)).trans (heap_alloc_new w _)
  have k4 : ∀ j, j < tl → ((w.alloc (.cells #[.slice (some ⟨gg, 0, none⟩) 1 cg] 48)).alloc (.cells #[.int .u8 nm, .int .i64 ln, .bool true, .int .u8 nd, .slice ta tl tc] 52)).cell? ⟨gn, j, none⟩ = some (.string (V j)) := fun j hj => cellLater (below_of_grown g1) (h4 j hj)
  go_enter Yba.func17, Yba.ntmps17
  go_upto_region 1 with fail
  generalize (w.alloc (.cells #[.slice (some ⟨gg, 0, none⟩) 1 cg] 48)).alloc (.cells #[.int .u8 nm, .int .i64 ln, .bool true, .int .u8 nd, .slice ta tl tc] 52) = W at *
  have a0 := cellAt hA 0
  have b0 := cellAt hB 0
  have b2 := cellAt hB 2
  have b3 := cellAt hB 3
  have b4 := cellAt hB 4
  simp at a0 b0 b2 b3 b4
  have g2 := World.grownBy_alloc W (.cells #[.int .i64 nd, .slice (some ⟨gn, 0, none⟩) tl cn] 57) none
  have f3 := cellLater (below_of_grown g2) b3
  have f4 := cellLater (below_of_grown g2) b4
  have hF := heap_alloc_new W (.cells #[.int .i64 nd, .slice (some ⟨gn, 0, none⟩) tl cn] 57)
  have f0 : (W.alloc (.cells #[.int .i64 nd, .slice (some ⟨gn, 0, none⟩) tl cn] 57)).cell? ⟨W.heap.size, 0, none⟩ = some (.int .i64 nd) := cellAt hF 0
  have f1 : (W.alloc (.cells #[.int .i64 nd, .slice (some ⟨gn, 0, none⟩) tl cn] 57)).cell? ⟨W.heap.size, 1, none⟩ = some (.slice (some ⟨gn, 0, none⟩) tl cn) := cellAt hF 1
  have f5 : ∀ j, j < tl → (W.alloc (.cells #[.int .i64 nd, .slice (some ⟨gn, 0, none⟩) tl cn] 57)).cell? ⟨gn, j, none⟩ = some (.string (V j)) := fun j hj => cellLater (below_of_grown g2) (k4 j hj)
  have HG : Hid (w.grownBy (W.alloc (.cells #[.int .i64 nd, .slice (some ⟨gn, 0, none⟩) tl cn] 57)) none) := grownBy_then g1 g2 (by simp) (by simp)
  have H5 : Hid (∀ j, j < tl → (W.alloc (.cells #[.int .i64 nd, .slice (some ⟨gn, 0, none⟩) tl cn] 57)).cell? ⟨gn, j, none⟩ = some (.string (V j))) := f5
  clear g1 g2 hA hB hF k4 f5 h1 h2 h3 h4 hnd
  go_upto_region 6 with fail
  clear a0 b0 b2 b3 b4 k1 k2 k3
  generalize W.alloc (.cells #[.int .i64 nd, .slice (some ⟨gn, 0, none⟩) tl cn] 57) = W2 at *
  go_wp2_with fail
  go_loopw [8] (fun x wr => ∃ q : Nat, q ≤ tl ∧ x = .int .i64 q ∧ W2.grownBy wr none) (fun x _ => tl - (intOf x).toNat)
  case atStart => exact ⟨0, Nat.zero_le _, rfl, ⟨rfl, rfl, rfl, Nat.le_refl _, fun _ _ _ => rfl⟩⟩
  case round =>
    obtain ⟨q, hq, rfl, hgr⟩ := hrel
    have m1 := cellLater (below_of_grown hgr) f1
    have m4 := cellLater (below_of_grown hgr) f4
    have HR : Hid (W2.grownBy wr none) := hgr
    by_cases hql : q < tl
    · have m5 := cellLater (below_of_grown hgr) (H5.out q hql)
      clear f0 f1 f3 f4 hgr
      go_upto_region 11 with fail
      go_quiet (first
        | (refine Calls.quiet_of (name_quiet 0 (by omega) (by omega) _)))
      go_wp2_with fail
      exact ⟨⟨q + 1, by omega, by go_num, ⟨HR.out.os, HR.out.tape, HR.out.output, HR.out.size, HR.out.block⟩⟩, by simp [intOf]; omega⟩
    · clear f0 f1 f3 f4 hgr
      go_wp2_with fail
      go_ret
      exact ⟨rfl, grownBy_then HG.out HR.out (by simp) (by simp)⟩

/-- zzs2081bwaitok, on the wait of process i. -/
theorem waitok_any {w : World} {n : Nat} {p : Procs} {i : Nat} {x : Option Addr} {q c : Nat} (h : CondOk w n p i (.agg #[.slice x q c])) (hnd : 0 ≤ p.nd i ∧ p.nd i ≤ 255) (htl : p.tl i ≤ 1024) (N nm ln : Int) (ta : Option Addr) (tc : Nat) :
    Calls Yba.prog 17 #[.agg #[.slice x q c], .agg #[.int .u8 nm, .int .i64 ln, .bool (p.wt i), .int .u8 (p.nd i), .slice ta (p.tl i) tc], .int .i64 N] w fun e w' => e = .returned (.bool true) ∧ w.grownBy w' none := by
  rcases h with ⟨hw, e⟩ | ⟨hw, gg, cg, gf, cf, gn, cn, k1, k2, k3, e, h1, h2, h3, h4, h5, h6, h7⟩
  · simp at e
    obtain ⟨rfl, rfl, rfl⟩ := e
    rw [hw]
    exact waitok_runs w N nm ln _ ta _ tc
  · simp at e
    obtain ⟨rfl, rfl, rfl⟩ := e
    rw [hw]
    exact waitok_waits w N nm ln (p.nd i) ta (p.tl i) tc gg c gf cf gn cn (fun j => nameOf (p.nm (p.td i j % n).toNat)) ((cellAt h1 0).trans h4) ((cellAt h2 0).trans h5) ((cellAt h2 1).trans h6) (fun j hj => (cellAt h3 j).trans (h7 j hj)) hnd htl
end Go.Proofs.Ybulkaqbo
