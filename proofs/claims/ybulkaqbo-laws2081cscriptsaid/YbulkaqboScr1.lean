import Derived.Test.YbulkaqboCCount
import Derived.Test.YbulkaqboA3
import Derived.Deep.RegionHeld3
namespace Go.Proofs.Ybulkaqbo
open Go.RowKit

theorem Own.store {w : World} {e : TypeId} {size g n c : Nat} {xs : List Value} (h : Own w e size (some ⟨g, 0, none⟩) n c xs) (j : Nat) (u : Value) : Own (w.setCell ⟨g, j, none⟩ u) e size (some ⟨g, 0, none⟩) n c (xs.set j u) :=
  (World.ownsRow.stored h j u).1

section
variable {B : Nat} {w : World} {gb : Nat} {A : Nat → Option Addr} {C : Nat → Nat} {Z : Nat → List Int}

theorem Gr.draws (h : Gr B w gb A C Z) (q : Nat) : Gr B (w.drewN q) gb A C Z := ⟨h.at_, fun i hi => h.own i hi, h.apart, h.low, h.lows⟩

theorem grCells_congr {Z' : Nat → List Int} (hz : ∀ i, i < 6 → (Z' i).length = (Z i).length) : grCells A C Z' = grCells A C Z := by
  simp only [grCells, hz 0 (by omega), hz 1 (by omega), hz 2 (by omega), hz 3 (by omega), hz 4 (by omega), hz 5 (by omega)]

/-- A number stored into one of the rows. -/
theorem Gr.store (h : Gr B w gb A C Z) {i g : Nat} (hi : i < 6) (hA : A i = some ⟨g, 0, none⟩) (j : Nat) (x : Int) : Gr B (w.setCell ⟨g, j, none⟩ (.int .i32 x)) gb A C (upd Z i ((Z i).set j x)) := by
  have hgb : g ≠ gb := fun e => h.ne hi (by rw [hA, e]; rfl)
  have hs := grownBy_setCell w ⟨g, j, none⟩ (.int .i32 x)
  have hl : ∀ k, (upd Z i ((Z i).set j x) k).length = (Z k).length := by
    intro k
    by_cases e : k = i
    · subst e; simp [upd]
    · simp [upd, e]
  refine ⟨?_, fun k hk => ?_, h.apart, h.low, h.lows⟩
  · rw [grCells_congr (fun k _ => hl k), hs.block gb h.lt (fun e => hgb (by simpa using e.symm))]
    exact h.at_
  · rw [hl]
    by_cases e : k = i
    · subst e
      rw [upd_same]
      have := (h.own k hk)
      rw [hA] at this ⊢
      have hi' : ints ((Z k).set j x) = (ints (Z k)).set j (.int .i32 x) := by simp [ints]
      rw [hi']
      exact this.store j _
    · rw [upd_ne _ _ _ e]
      exact (h.own k hk).kept hs (fun g' hb e' => h.apart k i g' hk hi e hb (by rw [hA]; simpa [blk] using e'))

theorem Gr.storeBelow (h : Gr B w gb A C Z) {i g : Nat} (hi : i < 6) (hA : A i = some ⟨g, 0, none⟩) (j : Nat) (v : Value) : Below B w (w.setCell ⟨g, j, none⟩ v) :=
  (Below.refl B w).setCell (p := ⟨g, j, none⟩) (h.lows i g hi (by rw [hA]; rfl)) _

/-- A row that is not empty has an address. -/
theorem Gr.addr (h : Gr B w gb A C Z) {i : Nat} (hi : i < 6) (hz : 0 < (Z i).length) : ∃ g, A i = some ⟨g, 0, none⟩ := by
  rcases (h.own i hi).shape with ⟨_, h0, _⟩ | ⟨g, _, h, _⟩
  · omega
  · exact ⟨g, h⟩

theorem Gr.rowCell (h : Gr B w gb A C Z) {i g : Nat} (hi : i < 6) (hA : A i = some ⟨g, 0, none⟩) {j : Nat} (hj : j < (Z i).length) : w.cell? ⟨g, j, none⟩ = some (.int .i32 ((Z i).getD j 0)) := by
  have := h.own i hi
  rw [hA] at this
  exact this.cell (ints_get _ _ hj)
theorem Gr.rowFree (h : Gr B w gb A C Z) {i g : Nat} (hi : i < 6) (hA : A i = some ⟨g, 0, none⟩) (j : Nat) : w.frozen? ⟨g, j, none⟩ = false := by
  have := h.own i hi
  rw [hA] at this
  exact this.free j
end

def cloneR (a : Option Addr) (n : Nat) (zs : List Int) (w : World) (e : Ending) (w' : World) : Prop := ∃ a' c', e = .returned (.slice a' n c') ∧ Own w' 21 1 a' n c' (ints zs) ∧ w.grownBy w' none ∧ (∀ g, blk a' = some g → w.heap.size ≤ g) ∧ a = a

set_option maxRecDepth 100000 in
/-- slices.Clone at int32, of a row of the call's own. -/
theorem clone_any (a : Option Addr) (n c : Nat) (zs : List Int) (w : World) (hown : Own w 21 1 a n c (ints zs)) (hn : n ≤ 1000000) :
    Calls Yba.prog 23 #[.slice a n c] w (cloneR a n zs w) := by
  obtain ⟨i0, hi, hz0, hz1, hz2⟩ := info_parts Yba.info21
  have hq : ∀ (w : World) (a : Option Addr) (n c n' c' : Nat), (binOp .eql 33 (.slice a n c) (.slice none n' c')).run Yba.prog w = .ok (.bool a.isNone) w := fun w a n c n' c' => Lib.run_eql_slice_nil w _ _ a n c n' c' Yba.underlying33
  rcases hown.shape with ⟨rfl, rfl, rfl, hz⟩ | ⟨g, cur, rfl, _⟩
  · go_enter Yba.func23, Yba.ntmps23
    go_wp2_with fail
    go_ret
    exact ⟨none, 0, rfl, hown, ⟨rfl, rfl, rfl, Nat.le_refl _, fun _ _ _ => rfl⟩, by simp [blk], rfl⟩
  · have hnew : Own (w.alloc (.cells #[] 21)) 21 1 (some ⟨w.heap.size, 0, none⟩) 0 0 [] := Own.mk (heap_alloc_new w _) (Nat.le_refl _) (Nat.zero_le _) rfl rfl
    have hl : (ints zs).length = n * 1 := hown.len
    have hcells : ∀ j u, (ints zs)[j]? = some u → (w.alloc (.cells #[] 21)).cell? ((⟨g, 0, none⟩ : Addr).add j) = some u := fun j u hj => by
      have h' : Own (w.alloc (.cells #[] 21)) 21 1 (some ⟨g, 0, none⟩) n c (ints zs) := hown.kept (World.grownBy_alloc w _ none) (fun g _ => by simp)
      rw [Addr.add_lit, Nat.zero_add]
      exact h'.cell hj
    by_cases h0 : n = 0
    · subst h0
      go_enter Yba.func23, Yba.ntmps23
      go_wp2_with (at_builtin; refine wpList_append_fits _ rfl (.tmp 5) (.tmp 6) 33 rfl 0 21 i0 1 Yba.underlying33 hi hz1 w.heap.size 0 0 [] rfl hnew ⟨g, 0, none⟩ 0 c (ints zs) rfl hl hcells (ints_oneCell .i32 zs) (Nat.le_refl _) ?_; intro w' hown' hgrow)
      go_ret
      refine ⟨_, _, rfl, hown', grownBy_then (World.grownBy_alloc w _ none) hgrow (by simp) (fun g hg hlt => by simp at hg; omega), fun g hg => by simp [blk] at hg; omega, rfl⟩
    · go_enter Yba.func23, Yba.ntmps23
      go_wp2_with (at_builtin; refine wpList_append_mine _ rfl (.tmp 5) (.tmp 6) 33 rfl 21 i0 (.int .i32 0) 1 4 Yba.underlying33 hi hz0 hz1 hz2 rfl (by decide) (some ⟨w.heap.size, 0, none⟩) 0 0 [] rfl hnew ⟨g, 0, none⟩ n c (by omega) (ints zs) rfl hl hcells (ints_oneCell .i32 zs) (by unfold maxLen; omega) (by omega) ?_; intro g' cap w' hown' hgrow hg)
      go_ret
      simp only [Nat.zero_add, List.nil_append] at hown'
      refine ⟨_, _, rfl, hown', grownBy_then (World.grownBy_alloc w _ none) hgrow (by simp) (fun g hg hlt => by simp [blk] at hg; omega), fun g1 hg1 => ?_, rfl⟩
      simp [blk] at hg1
      rcases hg with h | h <;> simp at h <;> omega

set_option maxHeartbeats 1600000 in
set_option maxRecDepth 100000 in
/-- slices.Equal at int32, of two slices that hold the same. -/
theorem equal_any (a : Option Addr) (n c : Nat) (b : Option Addr) (d : Nat) (V : Nat → Int) (w : World) (ha : In1 w a n (fun i => .int .i32 (V i))) (hb : In1 w b n (fun i => .int .i32 (V i))) (hn : n ≤ 1000000) :
    Calls Yba.prog 24 #[.slice a n c, .slice b n d] w fun e w' => e = .returned (.bool true) ∧ ∃ q, w' = w.drewN q := by
  have HA : Hid (In1 w a n (fun i => .int .i32 (V i))) := ha
  have HB : Hid (In1 w b n (fun i => .int .i32 (V i))) := hb
  clear ha hb
  go_enter Yba.func24, Yba.ntmps24
  go_wp2_with fail
  go_loopw [13] (fun x wr => ∃ k : Nat, k ≤ n ∧ x = .int .i64 k ∧ ∃ q, wr = w.drewN q) (fun x _ => n - (intOf x).toNat)
  case atStart => exact ⟨0, Nat.zero_le _, rfl, 0, rfl⟩
  case round =>
    obtain ⟨k, hk, rfl, q, rfl⟩ := hrel
    by_cases hlt : k < n
    · obtain ⟨b1, o1, rfl, hc1⟩ : ∃ b o, a = some ⟨b, o, none⟩ ∧ w.cell? ⟨b, o + k, none⟩ = some (.int .i32 (V k)) := by
        rcases HA.out with h | ⟨b, o, h1, _, h2⟩
        · omega
        · exact ⟨b, o, h1, h2 k hlt⟩
      obtain ⟨b2, o2, rfl, hc2⟩ : ∃ b' o, b = some ⟨b', o, none⟩ ∧ w.cell? ⟨b', o + k, none⟩ = some (.int .i32 (V k)) := by
        rcases HB.out with h | ⟨b, o, h1, _, h2⟩
        · omega
        · exact ⟨b, o, h1, h2 k hlt⟩
      go_wp2_with fail
      go_quiet (fail)
      go_wp2_with fail
      go_roundw
      case rel => exact ⟨k + 1, by omega, by go_num, _, rfl⟩
      case measure => simp [intOf]; omega
    · go_wp2_with fail
      go_ret
      exact ⟨rfl, _, rfl⟩
end Go.Proofs.Ybulkaqbo
