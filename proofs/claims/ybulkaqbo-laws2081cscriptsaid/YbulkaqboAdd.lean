import Derived.Test.YbulkaqboGraph
namespace Go.Proofs.Ybulkaqbo
open Go.RowKit

def emptyZ : Nat → List Int := fun i => if i = 2 then [0] else []

set_option maxRecDepth 100000 in
/-- newEmptyWaitGraph. -/
theorem newEmpty_any (w : World) : Calls Yba.prog 19 #[] w fun e w' => e = .returned (.pointer (some ⟨w.heap.size + 1, 0, none⟩)) ∧ w' = (w.alloc (.cells #[.int .i32 0] 21)).alloc (.cells #[.slice none 0 0, .slice none 0 0, .slice (some ⟨w.heap.size, 0, none⟩) 1 1, .slice none 0 0, .slice none 0 0, .slice none 0 0, .slice none 0 0, .slice none 0 0, .slice none 0 0] 69) := by
  go_enter Yba.func19, Yba.ntmps19
  go_wp2
  go_ret
  exact ⟨rfl, rfl⟩

set_option maxRecDepth 100000 in
/-- processes. -/
theorem processes_any (B : Nat) (w : World) (gb : Nat) (A : Nat → Option Addr) (C : Nat → Nat) (Z : Nat → List Int) (h : Gr B w gb A C Z) : Calls Yba.prog 21 #[.pointer (some ⟨gb, 0, none⟩)] w fun e w' => e = .returned (.int .i64 (Z 0).length) ∧ w' = w := by
  have hc0 := h.c0
  go_enter Yba.func21, Yba.ntmps21
  go_wp2
  go_ret
  exact ⟨rfl, rfl⟩

set_option maxRecDepth 100000 in
/-- addProcess. -/
theorem addProcess_any (B : Nat) (w : World) (gb : Nat) (A : Nat → Option Addr) (C : Nat → Nat) (Z : Nat → List Int) (h : Gr B w gb A C Z) (hB : B ≤ w.heap.size) (hn0 : (Z 0).length ≤ 1000000) (hn1 : (Z 1).length ≤ 1000000) :
    Calls Yba.prog 20 #[.pointer (some ⟨gb, 0, none⟩)] w fun e w' => e = .returned (.int .i32 (Z 0).length) ∧ Below B w w' ∧ (∀ b, b < w.heap.size → b ≠ gb → blk (A 0) ≠ some b → blk (A 1) ≠ some b → w'.heap[b]? = w.heap[b]?) ∧ ∃ A' C', Gr B w' gb A' C' (upd (upd Z 0 (Z 0 ++ [0])) 1 (Z 1 ++ [0])) := by
  have hc0 := h.c0
  go_enter Yba.func20, Yba.ntmps20
  go_wp2_with fail
  refine (appendDoubling_any (A 0) (Z 0).length (C 0) (ints (Z 0)) 0 w (h.own 0 (by omega)) hn0).mono ?_
  rintro e w1 ⟨g, cap, rfl, ho, hg, hw⟩
  have hG1 := h.append (k := 0) (by omega) hB ho hg hw
  have hb1 := h.appendBelow (k := 0) (v := .slice (some ⟨g, 0, none⟩) ((Z 0).length + 1) cap) (by omega) hB hg
  have hB1 : B ≤ (w1.setCell ⟨gb, 0, none⟩ (.slice (some ⟨g, 0, none⟩) ((Z 0).length + 1) cap)).heap.size := Nat.le_trans hB hb1.size
  have hk1 : w1.heap[gb]? = w.heap[gb]? := hg.block gb h.lt (fun e => h.ne (i := 0) (by omega) e.symm)
  have hc0' : w1.cell? ⟨gb, 0, none⟩ = some (.slice (A 0) (Z 0).length (C 0)) := (World.cell?_of_block hk1).trans h.c0
  have hc1' : w1.cell? ⟨gb, 1, none⟩ = some (.slice (A 1) (Z 1).length (C 1)) := (World.cell?_of_block hk1).trans h.c1
  have hf0' : w1.frozen? ⟨gb, 0, none⟩ = false := (World.frozen?_of_block hk1).trans (h.free 0)
  have HF1 : Hid (w.heap.size ≤ (w1.setCell ⟨gb, 0, none⟩ (.slice (some ⟨g, 0, none⟩) ((Z 0).length + 1) cap)).heap.size ∧ ∀ b, b < w.heap.size → b ≠ gb → blk (A 0) ≠ some b → (w1.setCell ⟨gb, 0, none⟩ (.slice (some ⟨g, 0, none⟩) ((Z 0).length + 1) cap)).heap[b]? = w.heap[b]?) :=
    ⟨hb1.size, fun b hb hn h0 => (Below.heap_setCell w1 ⟨gb, 0, none⟩ _ b hn).trans (hg.block b hb (fun e => h0 e.symm))⟩
  clear hk1 hg hw ho
  go_wp2_with fail
  clear hc0' hc1' hf0' hc0
  generalize w1.setCell ⟨gb, 0, none⟩ (.slice (some ⟨g, 0, none⟩) ((Z 0).length + 1) cap) = W1 at *
  refine (appendDoubling_any (A 1) (Z 1).length (C 1) (ints (Z 1)) 0 W1 (hG1.own 1 (by omega)) hn1).mono ?_
  rintro e w2 ⟨g2, cap2, rfl, ho, hg, hw⟩
  have hG2 := hG1.append (k := 1) (by omega) hB1 ho hg hw
  have hb2 := hG1.appendBelow (k := 1) (v := .slice (some ⟨g2, 0, none⟩) ((Z 1).length + 1) cap2) (by omega) hB1 hg
  have hk1 : w2.heap[gb]? = W1.heap[gb]? := hg.block gb hG1.lt (fun e => hG1.ne (i := 1) (by omega) e.symm)
  have hc1' : w2.cell? ⟨gb, 1, none⟩ = some (.slice (A 1) (Z 1).length (C 1)) := (World.cell?_of_block hk1).trans hG1.c1
  have hf1' : w2.frozen? ⟨gb, 1, none⟩ = false := (World.frozen?_of_block hk1).trans (hG1.free 1)
  have HF2 : Hid (∀ b, b < W1.heap.size → b ≠ gb → blk (A 1) ≠ some b → (w2.setCell ⟨gb, 1, none⟩ (.slice (some ⟨g2, 0, none⟩) ((Z 1).length + 1) cap2)).heap[b]? = W1.heap[b]?) :=
    fun b hb hn h0 => (Below.heap_setCell w2 ⟨gb, 1, none⟩ _ b hn).trans (hg.block b hb (fun e => h0 e.symm))
  clear hk1 hg hw ho
  go_wp2_with fail
  go_ret
  exact ⟨rfl, hb1.trans hb2, fun b hb hn h0 h1 => (HF2.out b (Nat.lt_of_lt_of_le hb HF1.out.1) hn h1).trans (HF1.out.2 b hb hn h0), _, _, hG2⟩

theorem ints_get (zs : List Int) (k : Nat) (h : k < zs.length) : (ints zs)[k]? = some (.int .i32 (zs.getD k 0)) := by
  simp [ints, h]

set_option maxRecDepth 100000 in
/-- zzs2081czeros at a row of zeros. -/
theorem zeros_any (a : Option Addr) (n c : Nat) (w : World) (hown : Own w 21 1 a n c (ints (List.replicate n 0))) (hn : n ≤ 1000000) :
    Calls Yba.prog 22 #[.slice a n c] w fun e w' => e = .returned (.bool true) ∧ w' = w := by
  rcases hown.shape with ⟨rfl, rfl, rfl, _⟩ | ⟨g, cur, rfl, _⟩
  · go_enter Yba.func22, Yba.ntmps22
    go_wp2
    refine wp_loop_rounds 1 ?_
    rw [rounds_succ]
    go_wp2
    go_ret
    exact ⟨rfl, rfl⟩
  · have hcell : ∀ k, k < n → w.cell? ⟨g, k, none⟩ = some (.int .i32 0) := fun k hk => hown.cell (by rw [ints_get _ _ (by simpa using hk)]; simp [hk])
    clear hown
    go_enter Yba.func22, Yba.ntmps22
    go_wp2
    go_loop [3] (fun i => ∃ k : Nat, k ≤ n ∧ i = .int .i64 k) (fun i => n - (intOf i).toNat)
    case atStart => exact ⟨0, Nat.zero_le _, rfl⟩
    case round =>
      obtain ⟨k, hk, rfl⟩ := hrel
      by_cases hlt : k < n
      · have hck := hcell k hlt
        clear hcell
        go_wp2
        go_round
        case rel => exact ⟨k + 1, by omega, by go_num⟩
        case measure => simp [intOf]; omega
      · clear hcell
        go_wp2
        go_ret
        exact ⟨rfl, rfl⟩
end Go.Proofs.Ybulkaqbo
