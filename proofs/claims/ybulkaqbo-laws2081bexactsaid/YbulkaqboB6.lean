import Derived.Test.YbulkaqboB5
import Derived.Deep.RegionLaw
import Derived.BigRegion
namespace Go.Proofs.Ybulkaqbo
open Go.RowKit
section
variable {w : World} {sb gb : Nat} {b : Nat → Nat} {n m : Nat} {p : Procs} {dec : Nat → Int} {A : Nat → Option Addr} {C : Nat → Nat} {ad : Option Addr} {cd : Nat}

theorem tgs_next (p : Procs) (n i : Nat) (hw : p.wt i = true) : (tgs p n (i + 1)).length = (tgs p n i).length + p.tl i := by
  simp [tgs, hw, tg_length]
theorem tgs_mono (p : Procs) (n i j : Nat) (h : i ≤ j) : (tgs p n i).length ≤ (tgs p n j).length := by
  induction j with
  | zero => obtain rfl : i = 0 := by omega
            exact Nat.le_refl _
  | succ j ih =>
    by_cases e : i = j + 1
    · subst e; exact Nat.le_refl _
    · have := ih (by omega)
      simp only [tgs]
      split
      · rw [List.length_append]; omega
      · exact this

/-- Where the targets of process i lie. -/
def tgA (A : Nat → Option Addr) (C : Nat → Nat) (p : Procs) (n i : Nat) : Option Addr := if C 1 = (tgs p n i).length then A 1 else (A 1).map (·.add (tgs p n i).length)

theorem tg_in1 (h : Snap w sb gb b n m p dec A C ad cd) (i : Nat) (hi : i < n) (hw : p.wt i = true) : In1 w (tgA A C p n i) (p.tl i) (fun j => .int .i32 (p.td i j % n)) := by
  have hc := h.capT
  have t1 := tgs_next p n i hw
  have t2 := tgs_mono p n (i + 1) n (by omega)
  rcases h.tg with h0 | ⟨g, o, e, hlt, hcell⟩
  · exact .inl (by omega)
  · by_cases ht : p.tl i = 0
    · exact .inl ht
    · unfold tgA
      rw [if_neg (by omega), e]
      refine .inr ⟨g, o + (tgs p n i).length, by simp [Addr.add], hlt, fun j hj => ?_⟩
      have := hcell ((tgs p n i).length + j) (by omega)
      show _ = some (Value.int .i32 (p.td i j % n))
      simp only [] at this
      rw [tgs_at p n i n j hi hw hj] at this
      rwa [Nat.add_assoc]

def namesR (w : World) (A : Nat → Option Addr) (C : Nat → Nat) (n : Nat) (p : Procs) (i : Nat) (e : Ending) (w' : World) : Prop :=
  ∃ c q, e = .returned (.slice (tgA A C p n i) (p.tl i) c) ∧ w' = w.drewN q

set_option maxRecDepth 100000 in
/-- names. -/
theorem names_any (h : Snap w sb gb b n m p dec A C ad cd) (i : Nat) (hi : i < n) (hw : p.wt i = true) (hn : n ≤ 1024) :
    Calls Yba.prog 39 #[.pointer (some ⟨gb, 0, none⟩), .int .i32 (cw p i)] w (namesR w A C n p i) := by
  have h2 := h.g2
  have h3 := h.g3
  have hc := h.capT
  have hm := cw_mono p (i + 1) n (by omega)
  have hcn := cw_le p n
  have e1 : cw p (i + 1) = cw p i + 1 := by simp [cw, hw]
  have t1 := tgs_next p n i hw
  have t2 := tgs_mono p n (i + 1) n (by omega)
  have f0 := fns_at p n i n (by omega)
  have f1 := fns_next p n i n hi hw
  obtain ⟨B, o, eA, hbz, hF⟩ : ∃ B o, A 0 = some ⟨B, o, none⟩ ∧ B < w.heap.size ∧ ∀ i, i < cw p n + 1 → w.cell? ⟨B, o + i, none⟩ = some (.int .i32 ((fns p n n).getD i 0)) := by
    rcases h.fn with h | h
    · omega
    · exact h
  have c0 := hF (cw p i) (by omega)
  have c1 := hF (cw p i + 1) (by omega)
  rw [f0] at c0
  rw [f1] at c1
  rw [eA] at h2
  clear h hF hbz f0 f1 eA
  go_enter Yba.func39, Yba.ntmps39
  go_wp2_with fail
  go_quiet (fail)
  go_wp2_with fail
  case inl =>
    go_ret
    unfold namesR tgA
    rw [if_pos (by assumption)]
    exact ⟨_, _, rfl, rfl⟩
  case inr =>
    go_ret
    unfold namesR tgA
    rw [if_neg (by assumption)]
    exact ⟨_, _, rfl, rfl⟩
end
end Go.Proofs.Ybulkaqbo
