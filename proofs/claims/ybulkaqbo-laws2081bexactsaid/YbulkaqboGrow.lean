import Derived.Test.YbulkaqboRows
import Derived.Test.YbulkaqboLaws
namespace Go.Proofs.Ybulkaqbo
open Go.RowKit

theorem Yba.info21 : (Yba.prog.info? 21).map (fun i => (i.zero, i.size, i.bytes)) = some (some (.int .i32 0), 1, 4) := by kernel_rfl

set_option maxRecDepth 100000 in
/-- slices.Grow at a full slice, by one more than its length. -/
theorem grow_any (a : Option Addr) (n : Nat) (xs : List Value) (w : World) (hown : Own w 21 1 a n n xs) (hn : n ≤ 1000000) :
    Calls Yba.prog 35 #[.slice a n n, .int .i64 ((n : Int) + 1)] w fun e w' => ∃ cap, e = .returned (.slice (some ⟨w.heap.size, 0, none⟩) n cap) ∧ n + 1 ≤ cap ∧ Own w' 21 1 (some ⟨w.heap.size, 0, none⟩) n cap xs ∧ w.grownBy w' none := by
  obtain ⟨i0, hi, hz0, hz1, hz2⟩ := info_parts Yba.info21
  have h63 : n + (n + 1) ≤ maxLen := by unfold maxLen; omega
  have hb : (n + (n + 1)) * 4 ≤ 140737488355328 := by omega
  go_enter Yba.func35, Yba.ntmps35
  go_wp2_with (at_builtin; refine wpList_append_zeros _ rfl (.tmp 20) (.tmp 21) 33 3 rfl 21 i0 (.int .i32 0) .i64 .i64 1 4 Yba.underlying33 Yba.underlying3 hi hz0 hz1 hz2 rfl (by decide) a n n xs rfl hown _ (n + 1) rfl (by omega) (by omega) (by omega) h63 hb ?_; intro cap w' hcap hown' hgrow)
  go_ret
  exact ⟨cap, rfl, by omega, hown', hgrow⟩

set_option maxRecDepth 100000 in
/-- appendDoubling: one element more, in the same row or in a new one. -/
theorem appendDoubling_any (a : Option Addr) (n c : Nat) (xs : List Value) (x : Int) (w : World) (hown : Own w 21 1 a n c xs) (hn : n ≤ 1000000) :
    Calls Yba.prog 31 #[.slice a n c, .int .i32 x] w fun e w' => ∃ g cap, e = .returned (.slice (some ⟨g, 0, none⟩) (n + 1) cap) ∧ Own w' 21 1 (some ⟨g, 0, none⟩) (n + 1) cap (xs ++ [.int .i32 x]) ∧ w.grownBy w' (blk a) ∧ (a = some ⟨g, 0, none⟩ ∨ w.heap.size ≤ g) := by
  obtain ⟨i0, hi, hz0, hz1, hz2⟩ := info_parts Yba.info21
  have h63 : n + 1 ≤ maxLen := by unfold maxLen; omega
  have hb : (n + 1) * 4 ≤ 140737488355328 := by omega
  have hle := hown.le
  by_cases hc : n = c
  · subst hc
    go_enter Yba.func31, Yba.ntmps31
    go_wp2_with fail
    refine (grow_any a n xs w hown hn).mono ?_
    rintro e w1 ⟨cap, rfl, hcap, hown1, hg1⟩
    have hown1' : Own (w1.alloc (.cells #[.int .i32 x] 21)) 21 1 (some ⟨w.heap.size, 0, none⟩) n cap xs := hown1.kept (World.grownBy_alloc w1 _ none) (fun g _ => by simp)
    go_wp2_with (at_builtin; refine wpList_append_mine _ rfl (.tmp 15) (.tmp 17) 33 rfl 21 i0 (.int .i32 0) 1 4 Yba.underlying33 hi hz0 hz1 hz2 rfl (by decide) (some ⟨w.heap.size, 0, none⟩) n cap xs rfl hown1' ⟨w1.heap.size, 0, none⟩ 1 1 (by decide) [.int .i32 x] rfl rfl (cell_one_new _ _ _) (by simp [Value.oneCell']) h63 hb ?_; intro g cap' w' hown' hgrow hg)
    go_ret
    refine ⟨g, cap', rfl, hown', grownBy_then hg1 (grownBy_then (World.grownBy_alloc w1 _ none) hgrow (by simp) (fun g hg _ => hg)) (by simp) ?_, .inr ?_⟩
    · intro g' hg' hlt
      simp [blk] at hg'
      omega
    · have := hg1.size
      rcases hg with h | h <;> simp at h <;> omega
  · have hne : ((n : Int) == (c : Int)) = false := by simp; omega
    have hown1' : Own (w.alloc (.cells #[.int .i32 x] 21)) 21 1 a n c xs := hown.kept (World.grownBy_alloc w _ none) (fun g _ => by simp)
    go_enter Yba.func31, Yba.ntmps31
    go_wp2_with (at_builtin; refine wpList_append_mine _ rfl (.tmp 15) (.tmp 17) 33 rfl 21 i0 (.int .i32 0) 1 4 Yba.underlying33 hi hz0 hz1 hz2 rfl (by decide) a n c xs rfl hown1' ⟨w.heap.size, 0, none⟩ 1 1 (by decide) [.int .i32 x] rfl rfl (cell_one_new _ _ _) (by simp [Value.oneCell']) h63 hb ?_; intro g cap' w' hown' hgrow hg)
    go_ret
    refine ⟨g, cap', rfl, hown', grownBy_then (World.grownBy_alloc w _ none) hgrow (by simp) (fun g hg _ => hg), ?_⟩
    rcases hg with h | h
    · exact .inl h
    · exact .inr (by simp at h; omega)
end Go.Proofs.Ybulkaqbo
