import Derived.Test.YbulkaqboScr1
import Derived.Test.YbulkaqboASteps
namespace Go.Proofs.Ybulkaqbo
open Go.RowKit

def nameR (B : Nat) (w : World) (gb : Nat) (Z : Nat → List Int) (e : Ending) (w' : World) : Prop :=
  e = .returned (.tuple #[]) ∧ Below B w w' ∧ ∃ A' C' Z', Gr B w' gb A' C' Z' ∧ ∀ i, i < 6 → (Z' i).length = (Z i).length + if i = 3 then 1 else 0

set_option maxHeartbeats 1600000 in
set_option maxRecDepth 100000 in
/-- addName. -/
theorem addName_any (B : Nat) (w : World) (gb : Nat) (A : Nat → Option Addr) (C : Nat → Nat) (Z : Nat → List Int) (h : Gr B w gb A C Z) (hB : B ≤ w.heap.size) (x : Int) (h2 : 1 ≤ (Z 2).length) (hl2 : (Z 2).length ≤ 1000000) (hl3 : (Z 3).length ≤ 1000000) :
    Calls Yba.prog 26 #[.pointer (some ⟨gb, 0, none⟩), .int .i32 x] w (nameR B w gb Z) := by
  have hc3 := h.c3
  go_enter Yba.func26, Yba.ntmps26
  go_wp2_with fail
  refine (appendDoubling_any (A 3) (Z 3).length (C 3) (ints (Z 3)) x w (h.own 3 (by omega)) hl3).mono ?_
  rintro e w1 ⟨g, cap, rfl, ho, hg, hw⟩
  have hG1 := h.append (k := 3) (by omega) hB ho hg hw
  have hb1 := h.appendBelow (k := 3) (v := .slice (some ⟨g, 0, none⟩) ((Z 3).length + 1) cap) (by omega) hB hg
  have hk1 : w1.heap[gb]? = w.heap[gb]? := hg.block gb h.lt (fun e => h.ne (i := 3) (by omega) e.symm)
  have hc3' : w1.cell? ⟨gb, 3, none⟩ = some (.slice (A 3) (Z 3).length (C 3)) := (World.cell?_of_block hk1).trans h.c3
  have hf3' : w1.frozen? ⟨gb, 3, none⟩ = false := (World.frozen?_of_block hk1).trans (h.free 3)
  clear hk1 hg hw ho hc3
  go_wp2_with fail
  generalize w1.setCell ⟨gb, 3, none⟩ (.slice (some ⟨g, 0, none⟩) ((Z 3).length + 1) cap) = W1 at *
  clear hc3' hf3'
  have Hz : Hid (∀ i, i < 6 → (upd Z 3 (Z 3 ++ [x]) i).length = (Z i).length + if i = 3 then 1 else 0) := fun i _ => by by_cases e : i = 3 <;> simp [upd, e]
  obtain ⟨l, hl⟩ : ∃ l, (Z 2).length = l + 1 := ⟨(Z 2).length - 1, by omega⟩
  have hz2 : (upd Z 3 (Z 3 ++ [x]) 2).length = l + 1 := by simp [upd, hl]
  generalize upd Z 3 (Z 3 ++ [x]) = Z1 at *
  generalize upd A 3 (some ⟨g, 0, none⟩) = A1 at *
  generalize upd C 3 cap = C1 at *
  obtain ⟨g2, hA2⟩ := hG1.addr (i := 2) (by omega) (by omega)
  have hc2 : W1.cell? ⟨gb, 2, none⟩ = some (.slice (some ⟨g2, 0, none⟩) (l + 1) (C1 2)) := by have := hG1.c2; rw [hA2, hz2] at this; exact this
  have hr2 := hG1.rowCell (i := 2) (by omega) hA2 (j := l) (by omega)
  have hf2 := hG1.rowFree (i := 2) (by omega) hA2 l
  have hbd : l ≤ 1000000 := by omega
  generalize (Z1 2).getD l 0 = z at *
  have HG : Hid (∀ v, Gr B (W1.setCell ⟨g2, l, none⟩ (.int .i32 v)) gb A1 C1 (upd Z1 2 ((Z1 2).set l v)) ∧ Below B W1 (W1.setCell ⟨g2, l, none⟩ (.int .i32 v))) := fun v => ⟨hG1.store (by omega) hA2 l v, hG1.storeBelow (i := 2) (by omega) hA2 l _⟩
  clear hG1 hA2 hz2 hl h2 hl2 hl3 h
  go_region
  go_end0
  refine ⟨rfl, (hb1.trans (HG.out _).2).drew, A1, C1, _, (HG.out _).1.draws 1, fun i hi => ?_⟩
  rw [← Hz.out i hi]
  by_cases e : i = 2
  · subst e; simp [upd]
  · simp [upd, e]

/-- Gr.append with the length named; what lies in the graph's own block behind the append. -/
theorem Gr.append' {B : Nat} {w : World} {gb : Nat} {A : Nat → Option Addr} {C : Nat → Nat} {Z : Nat → List Int} (h : Gr B w gb A C Z) {k n : Nat} (hk : k < 6) (hn : (Z k).length = n) (hB : B ≤ w.heap.size) {w1 : World} {g cap : Nat} {x : Int}
    (ho : Own w1 21 1 (some ⟨g, 0, none⟩) (n + 1) cap (ints (Z k) ++ [.int .i32 x])) (hg : w.grownBy w1 (blk (A k))) (hw : A k = some ⟨g, 0, none⟩ ∨ w.heap.size ≤ g) :
    (∃ A' C' Z', Gr B (w1.setCell ⟨gb, k, none⟩ (.slice (some ⟨g, 0, none⟩) (n + 1) cap)) gb A' C' Z' ∧ (∀ i, i ≠ k → A' i = A i ∧ C' i = C i ∧ Z' i = Z i) ∧ (Z' k).length = n + 1) ∧ Below B w (w1.setCell ⟨gb, k, none⟩ (.slice (some ⟨g, 0, none⟩) (n + 1) cap)) ∧ (∀ j v, w.cell? ⟨gb, j, none⟩ = some v → w1.cell? ⟨gb, j, none⟩ = some v) ∧ ∀ j, w1.frozen? ⟨gb, j, none⟩ = false := by
  subst hn
  have hk1 : w1.heap[gb]? = w.heap[gb]? := hg.block gb h.lt (fun e => h.ne hk e.symm)
  refine ⟨⟨_, _, _, h.append hk hB ho hg hw, fun i hi => ⟨upd_ne _ _ _ hi, upd_ne _ _ _ hi, upd_ne _ _ _ hi⟩, by simp [upd]⟩, h.appendBelow hk hB hg, fun j v hv => (World.cell?_of_block hk1).trans hv, fun j => (World.frozen?_of_block hk1).trans (h.free j)⟩

theorem group_last {B : Nat} {w : World} {gb : Nat} {A : Nat → Option Addr} {C : Nat → Nat} {Z : Nat → List Int} (h : Gr B w gb A C Z) {n : Nat} {a : Option Addr} (ha : A 2 = a) (hn : (Z 2).length = n) (hB : B ≤ w.heap.size) {w1 : World} {g cap : Nat} {x : Int}
    (ho : Own w1 21 1 (some ⟨g, 0, none⟩) (n + 1) cap (ints (Z 2) ++ [.int .i32 x])) (hg : w.drew.grownBy w1 (blk a)) (hw : a = some ⟨g, 0, none⟩ ∨ w.drew.heap.size ≤ g) :
    Hid (∃ A' C' Z', Gr B (w1.setCell ⟨gb, 2, none⟩ (.slice (some ⟨g, 0, none⟩) (n + 1) cap)) gb A' C' Z' ∧ (∀ i, i ≠ 2 → A' i = A i ∧ C' i = C i ∧ Z' i = Z i) ∧ (Z' 2).length = n + 1) ∧ Below B w (w1.setCell ⟨gb, 2, none⟩ (.slice (some ⟨g, 0, none⟩) (n + 1) cap)) ∧ (∀ j v, w.cell? ⟨gb, j, none⟩ = some v → w1.cell? ⟨gb, j, none⟩ = some v) ∧ ∀ j, w1.frozen? ⟨gb, j, none⟩ = false := by
  subst ha
  obtain ⟨k1, k2, k3, k4⟩ := (h.draws 1).append' (w1 := w1) (k := 2) (by omega) hn hB ho hg hw
  exact ⟨k1, (below_draws (Below.refl B w) 1).trans k2, k3, k4⟩

def groupR (B : Nat) (w : World) (gb : Nat) (Z : Nat → List Int) (e : Ending) (w' : World) : Prop :=
  e = .returned (.tuple #[]) ∧ Below B w w' ∧ ∃ A' C' Z', Gr B w' gb A' C' Z' ∧ ∀ i, i < 6 → (Z' i).length = (Z i).length + if i = 2 ∨ i = 4 ∨ i = 5 then 1 else 0

theorem group_end {B : Nat} {w w' : World} {gb : Nat} {A : Nat → Option Addr} {C : Nat → Nat} {Z Z3 : Nat → List Int} (hb : Below B w w') (h : ∃ A' C' Z', Gr B w' gb A' C' Z' ∧ (∀ i, i ≠ 2 → A' i = A i ∧ C' i = C i ∧ Z' i = Z3 i) ∧ (Z' 2).length = (Z 2).length + 1)
    (hl : (Z3 0).length = (Z 0).length ∧ (Z3 1).length = (Z 1).length ∧ (Z3 3).length = (Z 3).length ∧ (Z3 4).length = (Z 4).length + 1 ∧ (Z3 5).length = (Z 5).length + 1) : groupR B w gb Z (.returned (.tuple #[])) w' := by
  obtain ⟨A', C', Z', hG, hs, h2⟩ := h
  obtain ⟨l0, l1, l3, l4, l5⟩ := hl
  refine ⟨rfl, hb, A', C', Z', hG, fun i hi => ?_⟩
  match i, hi with
  | 0, _ => rw [(hs 0 (by omega)).2.2, l0]; rfl
  | 1, _ => rw [(hs 1 (by omega)).2.2, l1]; rfl
  | 2, _ => rw [h2]; rfl
  | 3, _ => rw [(hs 3 (by omega)).2.2, l3]; rfl
  | 4, _ => rw [(hs 4 (by omega)).2.2, l4]; rfl
  | 5, _ => rw [(hs 5 (by omega)).2.2, l5]; rfl

set_option maxHeartbeats 1600000 in
set_option maxRecDepth 100000 in
/-- addGroup. -/
theorem addGroup_any (B : Nat) (w : World) (gb : Nat) (A : Nat → Option Addr) (C : Nat → Nat) (Z : Nat → List Int) (h : Gr B w gb A C Z) (hB : B ≤ w.heap.size) (p : Nat) (q : Int) (hp0 : p < (Z 0).length) (hp1 : p < (Z 1).length) (hq : 0 ≤ q ∧ q ≤ 255) (hl : ∀ i, i < 6 → (Z i).length ≤ 1000000) :
    Calls Yba.prog 25 #[.pointer (some ⟨gb, 0, none⟩), .int .i32 p, .int .i64 q] w (groupR B w gb Z) := by
  obtain ⟨g0, hA0⟩ := h.addr (i := 0) (by omega) (by omega)
  obtain ⟨g1, hA1⟩ := h.addr (i := 1) (by omega) (by omega)
  have hne : g0 ≠ g1 := fun e => h.apart 0 1 g0 (by omega) (by omega) (by omega) (by rw [hA0]; rfl) (by rw [hA1, e]; rfl)
  have hc0 : w.cell? ⟨gb, 0, none⟩ = some (.slice (some ⟨g0, 0, none⟩) (Z 0).length (C 0)) := by have := h.c0; rw [hA0] at this; exact this
  have hc1 : w.cell? ⟨gb, 1, none⟩ = some (.slice (some ⟨g1, 0, none⟩) (Z 1).length (C 1)) := by have := h.c1; rw [hA1] at this; exact this
  have hc4 := h.c4
  have hr0 := h.rowCell (i := 0) (by omega) hA0 hp0
  have hr1 := h.rowCell (i := 1) (by omega) hA1 hp1
  have hf0 := h.rowFree (i := 0) (by omega) hA0 p
  have hf1 := h.rowFree (i := 1) (by omega) hA1 p
  have hp : p ≤ 1000000 := by have := hl 0 (by omega); omega
  have hl4 := hl 4 (by omega)
  have hg0 : g0 ≠ gb := fun e => h.ne (i := 0) (by omega) (by rw [hA0, e]; rfl)
  have hg1 : g1 ≠ gb := fun e => h.ne (i := 1) (by omega) (by rw [hA1, e]; rfl)
  generalize (Z 0).getD p 0 = z0 at *
  generalize (Z 1).getD p 0 = z1 at *
  have Hl : Hid (∀ i, i < 6 → (Z i).length ≤ 1000000) := hl
  clear hl
  by_cases hz : z0 = z1
  case' pos =>
    have hzb : (z0 == z1) = true := by simp [hz]
    have HG : Hid (∀ u x v, Gr B (((w.drewN u).setCell ⟨g0, p, none⟩ (.int .i32 x)).setCell ⟨g1, p, none⟩ (.int .i32 v)) gb A C (upd (upd Z 0 ((Z 0).set p x)) 1 ((Z 1).set p v)) ∧ Below B w (((w.drewN u).setCell ⟨g0, p, none⟩ (.int .i32 x)).setCell ⟨g1, p, none⟩ (.int .i32 v))) := fun u x v => by
      have k1 := (h.draws u).store (i := 0) (by omega) hA0 p x
      have k2 := k1.store (i := 1) (by omega) hA1 p v
      exact ⟨k2, ((below_draws (Below.refl B w) u).trans ((h.draws u).storeBelow (i := 0) (by omega) hA0 p _)).trans (k1.storeBelow (i := 1) (by omega) hA1 p _)⟩
    have hoth : ∀ (u : Nat) (v : Value) (b o : Nat), b ≠ g0 → ((w.drewN u).setCell ⟨g0, p, none⟩ v).cell? ⟨b, o, none⟩ = w.cell? ⟨b, o, none⟩ := fun u v b o hb => World.cell?_of_block (w := w) (Below.heap_setCell (w.drewN u) ⟨g0, p, none⟩ v b hb)
    have hk1 : ∀ u v, ((w.drewN u).setCell ⟨g0, p, none⟩ v).cell? ⟨g1, p, none⟩ = some (.int .i32 z1) := fun u v => (hoth u v g1 p (fun e => hne e.symm)).trans hr1
    have hk2 : ∀ u v, ((w.drewN u).setCell ⟨g0, p, none⟩ v).cell? ⟨gb, 1, none⟩ = some (.slice (some ⟨g1, 0, none⟩) (Z 1).length (C 1)) := fun u v => (hoth u v gb 1 (fun e => hg0 e.symm)).trans hc1
    have Hz : Hid (∀ x v i, i < 6 → (upd (upd Z 0 ((Z 0).set p x)) 1 ((Z 1).set p v) i).length = (Z i).length) := fun x v i _ => by
      by_cases e1 : i = 1
      · subst e1; simp [upd]
      · by_cases e0 : i = 0
        · subst e0; simp [upd]
        · simp [upd, e0, e1]
    clear hA0 hA1 h hoth hz
    go_enter Yba.func25, Yba.ntmps25
    go_wp2_with fail
    go_quiet (fail)
    go_wp2_with fail
    have hG := (HG.out nq (Z 4).length ((Z 4).length + 1)).1
    have hb := (HG.out nq (Z 4).length ((Z 4).length + 1)).2
    have HzB : Hid (∀ i, i < 6 → (upd (upd Z 0 ((Z 0).set p (Z 4).length)) 1 ((Z 1).set p ((Z 4).length + 1)) i).length = (Z i).length) := fun i hi => Hz.out _ _ i hi
    generalize upd (upd Z 0 ((Z 0).set p (Z 4).length)) 1 ((Z 1).set p ((Z 4).length + 1)) = Z1 at *
    clear HG Hz hk1 hk2
    generalize ((w.drewN nq).setCell ⟨g0, p, none⟩ (.int .i32 (Z 4).length)).setCell ⟨g1, p, none⟩ (.int .i32 ((Z 4).length + 1)) = W at *
  case' neg =>
    have hzb : (z0 == z1) = false := by simp [hz]
    have HG : Hid (∀ u v, Gr B ((w.drewN u).setCell ⟨g1, p, none⟩ (.int .i32 v)) gb A C (upd Z 1 ((Z 1).set p v)) ∧ Below B w ((w.drewN u).setCell ⟨g1, p, none⟩ (.int .i32 v))) := fun u v => ⟨(h.draws u).store (by omega) hA1 p v, (below_draws (Below.refl B w) u).trans ((h.draws u).storeBelow (i := 1) (by omega) hA1 p _)⟩
    have Hz : Hid (∀ v i, i < 6 → (upd Z 1 ((Z 1).set p v) i).length = (Z i).length) := fun v i _ => by
      by_cases e1 : i = 1
      · subst e1; simp [upd]
      · simp [upd, e1]
    clear hA0 hA1 h
    go_enter Yba.func25, Yba.ntmps25
    go_wp2_with fail
    go_quiet (fail)
    go_wp2_with fail
    have hG := (HG.out nq ((Z 4).length + 1)).1
    have hb := (HG.out nq ((Z 4).length + 1)).2
    have HzB : Hid (∀ i, i < 6 → (upd Z 1 ((Z 1).set p ((Z 4).length + 1)) i).length = (Z i).length) := fun i hi => Hz.out _ i hi
    generalize upd Z 1 ((Z 1).set p ((Z 4).length + 1)) = Z1 at *
    clear HG Hz
    generalize (w.drewN nq).setCell ⟨g1, p, none⟩ (.int .i32 ((Z 4).length + 1)) = W at *
  all_goals
    clear hc0 hc1 hc4 hr0 hr1 hf0 hf1 hg0 hg1 hne hzb hp0 hp1
    have hc2 : W.cell? ⟨gb, 2, none⟩ = some (.slice (A 2) (Z 2).length (C 2)) := by have := hG.c2; rwa [HzB.out 2 (by omega)] at this
    have hc3 : W.cell? ⟨gb, 3, none⟩ = some (.slice (A 3) (Z 3).length (C 3)) := by have := hG.c3; rwa [HzB.out 3 (by omega)] at this
    have hc4 : W.cell? ⟨gb, 4, none⟩ = some (.slice (A 4) (Z 4).length (C 4)) := by have := hG.c4; rwa [HzB.out 4 (by omega)] at this
    have hc5 : W.cell? ⟨gb, 5, none⟩ = some (.slice (A 5) (Z 5).length (C 5)) := by have := hG.c5; rwa [HzB.out 5 (by omega)] at this
    have hc6 := hG.c6
    have hBW : B ≤ W.heap.size := Nat.le_trans hB hb.size
    refine (appendDoubling_any (A 4) (Z 4).length (C 4) (ints (Z1 4)) q W (by have := hG.own 4 (by omega); rwa [HzB.out 4 (by omega)] at this) (Hl.out 4 (by omega))).mono ?_
    rintro e w1 ⟨g, cap, rfl, ho, hg, hw⟩
    obtain ⟨⟨A2, C2, Z2, hG2, hs2, hl2⟩, hb2, hk2, hfr2⟩ := hG.append' (k := 4) (by omega) (HzB.out 4 (by omega)) hBW ho hg hw
    have hc2' := hk2 2 _ hc2
    have hc3' := hk2 3 _ hc3
    have hc4' := hk2 4 _ hc4
    have hc5' := hk2 5 _ hc5
    have hc6' := hk2 6 _ hc6
    have hf4' := hfr2 4
    clear hc2 hc3 hc4 hc5 hc6 hk2 hfr2 ho hg hw
    go_wp2_with fail
    have hBW2 : B ≤ (w1.setCell ⟨gb, 4, none⟩ (.slice (some ⟨g, 0, none⟩) ((Z 4).length + 1) cap)).heap.size := Nat.le_trans hBW hb2.size
    have hc2 : (w1.setCell ⟨gb, 4, none⟩ (.slice (some ⟨g, 0, none⟩) ((Z 4).length + 1) cap)).cell? ⟨gb, 2, none⟩ = some (.slice (A 2) (Z 2).length (C 2)) := by have := hG2.c2; rwa [(hs2 2 (by omega)).1, (hs2 2 (by omega)).2.1, (hs2 2 (by omega)).2.2, HzB.out 2 (by omega)] at this
    have hc3 : (w1.setCell ⟨gb, 4, none⟩ (.slice (some ⟨g, 0, none⟩) ((Z 4).length + 1) cap)).cell? ⟨gb, 3, none⟩ = some (.slice (A 3) (Z 3).length (C 3)) := by have := hG2.c3; rwa [(hs2 3 (by omega)).1, (hs2 3 (by omega)).2.1, (hs2 3 (by omega)).2.2, HzB.out 3 (by omega)] at this
    have hc5 : (w1.setCell ⟨gb, 4, none⟩ (.slice (some ⟨g, 0, none⟩) ((Z 4).length + 1) cap)).cell? ⟨gb, 5, none⟩ = some (.slice (A 5) (Z 5).length (C 5)) := by have := hG2.c5; rwa [(hs2 5 (by omega)).1, (hs2 5 (by omega)).2.1, (hs2 5 (by omega)).2.2, HzB.out 5 (by omega)] at this
    have hc6 := hG2.c6
    clear hc2' hc3' hc4' hc5' hc6' hf4'
    generalize w1.setCell ⟨gb, 4, none⟩ (.slice (some ⟨g, 0, none⟩) ((Z 4).length + 1) cap) = W2 at *
    refine (appendDoubling_any (A 5) (Z 5).length (C 5) (ints (Z1 5)) p W2 (by have := hG2.own 5 (by omega); rwa [(hs2 5 (by omega)).1, (hs2 5 (by omega)).2.1, (hs2 5 (by omega)).2.2, HzB.out 5 (by omega)] at this) (Hl.out 5 (by omega))).mono ?_
    rintro e w2 ⟨g3, cap3, rfl, ho, hg, hw⟩
    obtain ⟨⟨A3, C3, Z3, hG3, hs3, hl3⟩, hb3, hk3, hfr3⟩ := hG2.append' (k := 5) (n := (Z 5).length) (by omega) (by rw [(hs2 5 (by omega)).2.2]; exact HzB.out 5 (by omega)) hBW2 (by rw [(hs2 5 (by omega)).2.2]; exact ho) (by rw [(hs2 5 (by omega)).1]; exact hg) (by rw [(hs2 5 (by omega)).1]; exact hw)
    have hc2' := hk3 2 _ hc2
    have hc3' := hk3 3 _ hc3
    have hc5' := hk3 5 _ hc5
    have hc6' := hk3 6 _ hc6
    have hf5' := hfr3 5
    clear hc2 hc3 hc5 hc6 hk3 hfr3 ho hg hw
    go_wp2_with fail
    have hBW3 : B ≤ (w2.setCell ⟨gb, 5, none⟩ (.slice (some ⟨g3, 0, none⟩) ((Z 5).length + 1) cap3)).heap.size := Nat.le_trans hBW2 hb3.size
    have e2 : A3 2 = A 2 ∧ C3 2 = C 2 ∧ Z3 2 = Z1 2 := ⟨(hs3 2 (by omega)).1.trans (hs2 2 (by omega)).1, (hs3 2 (by omega)).2.1.trans (hs2 2 (by omega)).2.1, (hs3 2 (by omega)).2.2.trans (hs2 2 (by omega)).2.2⟩
    have e3 : A3 3 = A 3 ∧ C3 3 = C 3 ∧ Z3 3 = Z1 3 := ⟨(hs3 3 (by omega)).1.trans (hs2 3 (by omega)).1, (hs3 3 (by omega)).2.1.trans (hs2 3 (by omega)).2.1, (hs3 3 (by omega)).2.2.trans (hs2 3 (by omega)).2.2⟩
    have hc2 : (w2.setCell ⟨gb, 5, none⟩ (.slice (some ⟨g3, 0, none⟩) ((Z 5).length + 1) cap3)).cell? ⟨gb, 2, none⟩ = some (.slice (A 2) (Z 2).length (C 2)) := by have := hG3.c2; rwa [e2.1, e2.2.1, e2.2.2, HzB.out 2 (by omega)] at this
    have hc3 : (w2.setCell ⟨gb, 5, none⟩ (.slice (some ⟨g3, 0, none⟩) ((Z 5).length + 1) cap3)).cell? ⟨gb, 3, none⟩ = some (.slice (A 3) (Z 3).length (C 3)) := by have := hG3.c3; rwa [e3.1, e3.2.1, e3.2.2, HzB.out 3 (by omega)] at this
    have hc6 := hG3.c6
    have HL6 : Hid ((Z3 0).length = (Z 0).length ∧ (Z3 1).length = (Z 1).length ∧ (Z3 3).length = (Z 3).length ∧ (Z3 4).length = (Z 4).length + 1 ∧ (Z3 5).length = (Z 5).length + 1) := by
      show _ ∧ _
      rw [(hs3 0 (by omega)).2.2, (hs3 1 (by omega)).2.2, (hs3 4 (by omega)).2.2, (hs2 0 (by omega)).2.2, (hs2 1 (by omega)).2.2, e3.2.2, hl2, hl3]
      exact ⟨HzB.out 0 (by omega), HzB.out 1 (by omega), HzB.out 3 (by omega), rfl, rfl⟩
    have HZ2 : Hid ((Z3 2).length = (Z 2).length) := by show _ = _; rw [e2.2.2]; exact HzB.out 2 (by omega)
    have HE2 : Hid (A3 2 = A 2 ∧ C3 2 = C 2) := ⟨e2.1, e2.2.1⟩
    have hb3' := (hb.trans hb2).trans hb3
    clear hc2' hc3' hc5' hc6' hf5' e2 e3 hs2 hs3 hl2 hl3 hb hb2 hb3 hG hG2 HzB
    generalize w2.setCell ⟨gb, 5, none⟩ (.slice (some ⟨g3, 0, none⟩) ((Z 5).length + 1) cap3) = W3 at *
    have HO : Hid (Own W3.drew 21 1 (A 2) (Z 2).length (C 2) (ints (Z3 2))) := by show Own _ _ _ _ _ _ _; have := hG3.own 2 (by omega); rwa [HE2.out.1, HE2.out.2, HZ2.out] at this
    have HG3 : Hid (Gr B W3 gb A3 C3 Z3) := hG3
    have hl3 := Hl.out 3 (by omega)
    clear hG3
    go_region_with (go_at_call 31; refine (appendDoubling_any (A 2) (Z 2).length (C 2) (ints (Z3 2)) (IntKind.i32.wrap (Z 3).length) W3.drew HO.out (Hl.out 2 (by omega))).mono ?_; rintro e w4 ⟨g4, cap4, rfl, ho, hg, hw⟩; obtain ⟨HG4, hb4, hk4, hfr4⟩ := group_last HG3.out HE2.out.1 HZ2.out hBW3 ho hg hw; have hc2' := hk4 2 _ hc2; have hf2' := hfr4 2; have hc6' := hk4 6 _ hc6; clear ho hg hw hk4 hfr4)
    all_goals
      have hqn : ∀ (w : World) (a : Option Addr) (n c n' c' : Nat), (binOp .neq 33 (.slice a n c) (.slice none n' c')).run Yba.prog w = .ok (.bool !a.isNone) w := fun w a n c n' c' => run_neq_slice_nil_any w _ _ a n c n' c' Yba.underlying33
      go_wp2_with fail
      go_end0
      exact group_end (hb3'.trans hb4) HG4.out HL6.out
end Go.Proofs.Ybulkaqbo
