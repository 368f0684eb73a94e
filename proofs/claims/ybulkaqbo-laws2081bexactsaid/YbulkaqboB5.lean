import Derived.Test.YbulkaqboB4
import Derived.BigQuiet
import Derived.Deep.QuietTactic
import Derived.Deep.RegionHeld3
namespace Go.Proofs.Ybulkaqbo
open Go.RowKit

section
variable {w : World} {sb gb : Nat} {b : Nat → Nat} {n m : Nat} {p : Procs} {dec : Nat → Int} {A : Nat → Option Addr} {C : Nat → Nat} {ad : Option Addr} {cd : Nat}

theorem below_of_grown {x y : World} (h : x.grownBy y none) : Below x.heap.size x y := (Below.refl _ x).grown h (Nat.le_refl _) (by simp)

set_option maxRecDepth 100000 in
/-- groups. -/
theorem groups_any (h : Snap w sb gb b n m p dec A C ad cd) (i : Nat) (hi : i < n) :
    Calls Yba.prog 37 #[.pointer (some ⟨gb, 0, none⟩), .int .i32 i] w fun e w' => e = .returned (.tuple #[.int .i32 (fgv p i), .int .i32 (egv p i)]) ∧ ∃ q, w' = w.drewN q := by
  have h0 := h.g0
  have h1 := h.g1
  have h2 := h.fg i hi
  have h3 := h.eg i hi
  clear h
  go_enter Yba.func37, Yba.ntmps37
  go_wp2_with fail
  go_quiet (fail)
  go_wp2_with fail
  go_ret2
  exact ⟨rfl, _, rfl⟩

set_option maxRecDepth 100000 in
/-- factorsEnd: every Group is one group. -/
theorem factorsEnd_any (h : Snap w sb gb b n m p dec A C ad cd) (x : Int) (h0 : 0 ≤ x) (h1 : x ≤ 100000) :
    Calls Yba.prog 38 #[.pointer (some ⟨gb, 0, none⟩), .int .i32 x] w fun e w' => e = .returned (.int .i32 (x + 1)) ∧ w' = w := by
  have h6 := h.g6
  clear h
  have hq : ∀ (w : World) (a : Option Addr) (n c n' c' : Nat), (binOp .neq 33 (.slice a n c) (.slice none n' c')).run Yba.prog w = .ok (.bool !a.isNone) w := fun w a n c n' c' => run_neq_slice_nil_any w _ _ a n c n' c' Yba.underlying33
  go_enter Yba.func38, Yba.ntmps38
  go_wp2_with fail
  refine wp_loop_rounds 1 ?_
  rw [rounds_succ]
  go_wp2_with fail
  go_ret
  exact ⟨rfl, rfl⟩

set_option maxRecDepth 100000 in
/-- (*nameTable).name. -/
theorem nameOf_any (h : Snap w sb gb b n m p dec A C ad cd) (i : Nat) (hi : i < n) :
    Calls Yba.prog 29 #[.pointer (some ⟨sb, 0, none⟩), .int .i32 i] w fun e w' => e = .returned (.string (nameOf (p.nm i))) ∧ w.grownBy w' none := by
  have h0 := h.s0
  have h3 := h.s3
  have h4 := h.nm i hi
  have h5 := h.r0 i hi
  have h6 := h.r1 i hi
  have h7 := h.r2 i hi
  have hs := nameOf_size (p.nm i)
  clear h
  generalize nameOf (p.nm i) = s at *
  have hg := World.grownBy_alloc w (.cells #[.int .u32 i, .int .u16 0, .int .u8 s.size] 85) none
  have bl := below_of_grown hg
  have k0 := cellLater bl h0
  have k4 := cellLater bl h4
  have hr := heap_alloc_new w (.cells #[.int .u32 i, .int .u16 0, .int .u8 s.size] 85)
  have r0 : (w.alloc (.cells #[.int .u32 i, .int .u16 0, .int .u8 s.size] 85)).cell? ⟨w.heap.size, 0, none⟩ = some (.int .u32 i) := by simp only [World.cell?, hr]; rfl
  have r1 : (w.alloc (.cells #[.int .u32 i, .int .u16 0, .int .u8 s.size] 85)).cell? ⟨w.heap.size, 1, none⟩ = some (.int .u16 0) := by simp only [World.cell?, hr]; rfl
  have r2 : (w.alloc (.cells #[.int .u32 i, .int .u16 0, .int .u8 s.size] 85)).cell? ⟨w.heap.size, 2, none⟩ = some (.int .u8 s.size) := by simp only [World.cell?, hr]; rfl
  have HX : Hid (w.grownBy (w.alloc (.cells #[.int .u32 i, .int .u16 0, .int .u8 s.size] 85)) none) := hg
  clear bl hr hg
  go_enter Yba.func29, Yba.ntmps29
  go_wp2_with fail
  clear h0 h3 h4 h5 h6 h7
  generalize w.alloc (.cells #[.int .u32 i, .int .u16 0, .int .u8 s.size] 85) = W1 at *
  go_quiet (fail)
  go_wp2_with fail
  go_ret
  refine ⟨rfl, ?_⟩
  exact ⟨HX.out.os, HX.out.tape, HX.out.output, HX.out.size, HX.out.block⟩
end
end Go.Proofs.Ybulkaqbo
