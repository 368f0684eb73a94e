import Derived.Test.YbulkaqboB11
namespace Go.Proofs.Ybulkaqbo
open Go.RowKit

/-- Between two calls of yield: k calls so far; c: the last answer. -/
structure StopJ (Wb : World) (sb cb cc cj JJ mm : Nat) (k : Nat) (c : Bool) (w : World) : Prop where
  bel : Below Wb.heap.size Wb w
  box : w.cell? ⟨cb, 0, none⟩ = some (.pointer (some ⟨sb, 0, none⟩))
  cnt : w.heap[cc]? = some (.cells #[.int .i64 k] 3)
  lim : w.cell? ⟨cj, 0, none⟩ = some (.int .i64 JJ)
  go : c = true → k < JJ
  no : c = false → k = JJ
  le : k ≤ mm

theorem StopJ.grow {Wb w w' : World} {sb cb cc cj JJ mm k : Nat} {c : Bool} (h : StopJ Wb sb cb cc cj JJ mm k c w) (hg : w.grownBy w' none) : StopJ Wb sb cb cc cj JJ mm k c w' :=
  ⟨h.bel.grown hg h.bel.size (by simp), cellLater (below_of_grown hg) h.box, (hg.block cc (Array.getElem?_eq_some_iff.1 h.cnt).1 (by simp)).trans h.cnt, cellLater (below_of_grown hg) h.lim, h.go, h.no, h.le⟩

theorem stop_next {Wb w : World} {sb cb cc cj JJ mm k : Nat} {o : Obj} (h : StopJ Wb sb cb cc cj JJ mm k true w) (hB : Wb.heap.size ≤ cc) (h1 : cb ≠ cc) (h2 : cc ≠ cj) (h3 : k < mm) :
    StopJ Wb sb cb cc cj JJ mm (k + 1) (decide (k + 1 < JJ)) ((w.alloc o).setCell ⟨cc, 0, none⟩ (.int .i64 ((k : Int) + 1))) := by
  have h' := h.grow (World.grownBy_alloc w o none)
  have hgo := h.go rfl
  refine ⟨?_, ?_, ?_, ?_, ?_, ?_, by omega⟩
  · exact h'.bel.grown (grownBy_setCell _ _ _) h'.bel.size (by simp; exact hB)
  · exact (World.cell?_setCell_other _ _ _ _ (fun e => by cases e; exact h1 rfl)).trans h'.box
  · rw [heap_setCell_at _ _ _ _ _ _ h'.cnt]
    simp
  · exact (World.cell?_setCell_other _ _ _ _ (fun e => by cases e; exact h2 rfl)).trans h'.lim
  · simp
  · simp; omega

def stopR (Wb : World) (JJ m : Nat) (e : Ending) (w : World) : Prop := e = .returned (.tuple #[]) ∧ ∃ k : Nat, k = min JJ m ∧ w.heap[Wb.heap.size + 1]? = some (.cells #[.int .i64 k] 3) ∧ w.cell? ⟨Wb.heap.size, 0, none⟩ = some (.int .i64 JJ) ∧ Below Wb.heap.size Wb w

theorem stop_start (Wb : World) (sb JJ mm : Nat) (h : 1 ≤ JJ) : StopJ Wb sb (Wb.heap.size + 1 + 1) (Wb.heap.size + 1) Wb.heap.size JJ mm 0 true (((Wb.alloc (.cells #[.int .i64 (JJ : Int)] 3)).alloc (.cells #[.int .i64 0] 3)).alloc (.cells #[.pointer (some ⟨sb, 0, none⟩)] 39)) := by
  generalize hA : Wb.alloc (.cells #[.int .i64 (JJ : Int)] 3) = WA
  generalize hB : WA.alloc (.cells #[.int .i64 0] 3) = WB
  have sA : WA.heap.size = Wb.heap.size + 1 := by rw [← hA]; simp
  have sB : WB.heap.size = Wb.heap.size + 1 + 1 := by rw [← hB]; simp [sA]
  have r1 : WA.heap[Wb.heap.size]? = some (.cells #[.int .i64 (JJ : Int)] 3) := by rw [← hA]; exact heap_alloc_new _ _
  have r2 : WB.heap[Wb.heap.size + 1]? = some (.cells #[.int .i64 0] 3) := by rw [← hB, ← sA]; exact heap_alloc_new _ _
  have r3 := heap_alloc_new WB (.cells #[.pointer (some ⟨sb, 0, none⟩)] 39)
  rw [sB] at r3
  have g1 : WA.grownBy WB none := by rw [← hB]; exact World.grownBy_alloc _ _ _
  have g2 : WB.grownBy (WB.alloc (.cells #[.pointer (some ⟨sb, 0, none⟩)] 39)) none := World.grownBy_alloc _ _ _
  have b0 : Below Wb.heap.size Wb WA := by rw [← hA]; exact (Below.refl _ _).alloc (Nat.le_refl _) _
  have r1' := (g2.block Wb.heap.size (by omega) (by simp)).trans ((g1.block Wb.heap.size (by omega) (by simp)).trans r1)
  have r2' := (g2.block (Wb.heap.size + 1) (by omega) (by simp)).trans r2
  refine ⟨(b0.grown g1 (by omega) (by simp)).grown g2 (by omega) (by simp), ?_, ?_, ?_, fun _ => by omega, fun h => (by cases h), Nat.zero_le _⟩
  · simp only [World.cell?, r3]; rfl
  · exact r2'
  · simp only [World.cell?, r1']; rfl

set_option maxHeartbeats 4000000 in
set_option maxRecDepth 100000 in
theorem bstop_walk (a0 : Option Addr) (n c0 : Nat) (p : Procs) (a1 : Option Addr) (m c1 : Nat) (O : Nat → Int) (x : Int) (w : World)
    (h0 : InProcs w a0 n p) (h1 : In1 w a1 m (fun i => .int .u8 (O i))) (hO : ∀ i, 0 ≤ O i ∧ O i ≤ 255) (hx : 0 ≤ x ∧ x ≤ 255) :
    Calls Yba.prog 6 #[.slice a0 n c0, .slice a1 m c1, .int .u8 x] w fun e w' => e = .returned (.bool true) ∧ Below w.heap.size w w' := by
  have H0 : Hid (InProcs w a0 n p) := h0
  have H1 : Hid (In1 w a1 m (fun i => .int .u8 (O i))) := h1
  have HO : Hid (∀ i, 0 ≤ O i ∧ O i ≤ 255) := hO
  clear h0 h1 hO
  obtain ⟨JJ, hJJ⟩ : ∃ JJ : Nat, x + 1 = JJ := ⟨(x + 1).toNat, by omega⟩
  have HJ : Hid (x + 1 = (JJ : Int)) := hJJ
  have hJ1 : 1 ≤ JJ := by omega
  have hJ2 : JJ ≤ 256 := by omega
  clear hJJ
  have hx1 := hx.1
  have hx2 := hx.2
  clear hx
  go_enter Yba.func6, Yba.ntmps6
  go_wp2_with fail
  refine (bok_any a0 n c0 a1 m c1 p w H0.out).mono ?_
  rintro e w' ⟨bb, rfl, hw, hok⟩
  have hw2 := hw.symm
  subst hw2
  clear hw
  cases bb with
  | false =>
    go_wp2_with fail
    go_ret
    exact ⟨rfl, Below.refl _ _⟩
  | true =>
    obtain ⟨hn, hm, hL⟩ := hok rfl
    have HL : Hid (∀ i, i < n → p.tl i ≤ 1024) := hL
    clear hok hL
    go_wp2_with fail
    refine (bbuild_any a0 n c0 p a1 m c1 O w H0.out H1.out HO.out hn hm HL.out).mono ?_
    rintro e Wb ⟨sb, gb, b, m', dec, A, C, ad, cd, rfl, hS, hbl, hm'⟩
    have HS : Hid (Snap Wb sb gb b n m' p dec A C ad cd) := hS
    have HB : Hid (Below w.heap.size w Wb) := hbl
    clear hS hbl
    go_wp2_with fail
    rw [HJ.out]
    refine (decl_any sb _).mono ?_
    rintro e w1 ⟨rfl, hw⟩
    have HX : Hid (StopJ Wb sb (Wb.heap.size + 1 + 1) (Wb.heap.size + 1) Wb.heap.size JJ m' 0 true w1) := by rw [hw]; exact stop_start Wb sb JJ m' hJ1
    have hs : ((Wb.alloc (.cells #[.int .i64 (JJ : Int)] 3)).alloc (.cells #[.int .i64 0] 3)).heap.size = Wb.heap.size + 1 + 1 := by simp
    rw [hs]
    clear hs hw
    go_wp2_with fail
    refine (decl_seq (.func (.func 18) #[] #[.pointer (some ⟨Wb.heap.size + 1, 0, none⟩), .pointer (some ⟨Wb.heap.size, 0, none⟩)]) (Wb.heap.size + 1 + 1) (StopJ Wb sb (Wb.heap.size + 1 + 1) (Wb.heap.size + 1) Wb.heap.size JJ m') (stopR Wb JJ m') (fun k c w h => h.box) (fun k c w h => HS.out.later h.bel) (fun k c w w' h hg => h.grow hg) ?_ ?_ ?_ HX.out hn hm' HL.out H0.out.ndOk).mono ?_
    · intro k W x q c hk hJ hC
      refine answers_calls call18 ((stopYield_any (Wb.heap.size + 1) Wb.heap.size k JJ _ _ _ W ?_ ?_ hJ.lim (by omega) (by omega)).mono ?_)
      · simp only [World.cell?, hJ.cnt]; rfl
      · simp only [World.frozen?, hJ.cnt]; rfl
      · rintro e W' ⟨rfl, rfl⟩
        exact ⟨_, rfl, _, rfl, stop_next hJ (by omega) (by omega) (by omega) hk⟩
    · intro W h
      exact ⟨rfl, m', by have := h.go rfl; omega, h.cnt, h.lim, h.bel⟩
    · intro k W h
      exact ⟨rfl, k, by have := h.no rfl; have := h.le; omega, h.cnt, h.lim, h.bel⟩
    rintro e W ⟨rfl, k, hk, hcnt, hlim, hbel⟩
    have hc : W.cell? ⟨Wb.heap.size + 1, 0, none⟩ = some (.int .i64 k) := by simp only [World.cell?, hcnt]; rfl
    have HBL : Hid (Below w.heap.size w W) := HB.out.trans (hbel.mono HB.out.size)
    clear hcnt hbel HX
    by_cases hlt : m' < JJ
    · obtain rfl : k = m' := by omega
      clear hk
      go_wp2_with fail
      go_ret
      exact ⟨by simp, HBL.out⟩
    · obtain rfl : k = JJ := by omega
      clear hk
      go_wp2_with fail
      go_ret
      exact ⟨by simp, HBL.out⟩
end Go.Proofs.Ybulkaqbo
