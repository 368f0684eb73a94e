import Derived.Test.YbulkaqboGraph
import Derived.Test.YbulkaqboA1
namespace Go.Proofs.Ybulkaqbo
open Go.RowKit

theorem Yba.info33 : (Yba.prog.info? 33).map (fun i => (i.zero, i.size, i.bytes)) = some (some (.slice none 0 0), 1, 24) := by kernel_rfl
theorem Yba.info3 : (Yba.prog.info? 3).map (fun i => (i.zero, i.size, i.bytes)) = some (some (.int .i64 0), 1, 8) := by kernel_rfl
theorem Yba.size3 : (Yba.prog.info? 3).map (·.size) = some 1 := by kernel_rfl

/-- The sum of the first k. -/
def S (D : Nat → Int) : Nat → Int
  | 0 => 0
  | k + 1 => S D k + D k
/-- The sums of the first 1, 2, .., k. -/
def pre (D : Nat → Int) (k : Nat) : List Int := (List.range k).map fun j => S D (j + 1)
theorem pre_succ (D : Nat → Int) (k : Nat) : pre D (k + 1) = pre D k ++ [S D (k + 1)] := by simp [pre, List.range_succ]
theorem pre_length (D : Nat → Int) (k : Nat) : (pre D k).length = k := by simp [pre]
theorem S_bound (D : Nat → Int) (hD : ∀ j, 0 ≤ D j ∧ D j ≤ 255) (k : Nat) : 0 ≤ S D k ∧ S D k ≤ 255 * k := by
  induction k with
  | zero => simp [S]
  | succ k ih => have := hD k; simp only [S]; omega
theorem S_mono (D : Nat → Int) (hD : ∀ j, 0 ≤ D j ∧ D j ≤ 255) (i j : Nat) (h : i ≤ j) : S D i ≤ S D j := by
  induction j with
  | zero => obtain rfl : i = 0 := by omega
            exact Int.le_refl _
  | succ j ih =>
    by_cases e : i = j + 1
    · subst e; exact Int.le_refl _
    · have := ih (by omega); have := hD j; simp only [S]; omega
theorem pre_up (D : Nat → Int) (hD : ∀ j, 0 ≤ D j ∧ D j ≤ 255) (k : Nat) : Up (pre D k) := by
  intro i j hij hj
  rw [pre_length] at hj
  have e : ∀ i, i < k → (pre D k).getD i 0 = S D (i + 1) := by intro i hi; simp [pre, hi]
  rw [e i (by omega), e j hj]
  exact S_mono D hD _ _ (by omega)

/-- n slices as cells. -/
def atCells (n : Nat) (A : Nat → Option Addr) (C : Nat → Nat) (Z : Nat → List Int) : Array Value := ((List.range n).map fun i => Value.slice (A i) (Z i).length (C i)).toArray

/-- A slice of n rows of int32 that the call itself has made lies at block gb; no two of its rows are one; all from block B on. -/
structure At (B : Nat) (w : World) (gb n : Nat) (A : Nat → Option Addr) (C : Nat → Nat) (Z : Nat → List Int) : Prop where
  at_ : w.heap[gb]? = some (.cells (atCells n A C Z) 33 (0, 0))
  own : ∀ i, i < n → Own w 21 1 (A i) (Z i).length (C i) (ints (Z i))
  apart : ∀ i j g, i < n → j < n → i ≠ j → blk (A i) = some g → blk (A j) ≠ some g
  low : B ≤ gb
  lows : ∀ i g, i < n → blk (A i) = some g → B ≤ g

section
variable {B : Nat} {w : World} {gb n : Nat} {A : Nat → Option Addr} {C : Nat → Nat} {Z : Nat → List Int}

theorem At.cell (h : At B w gb n A C Z) {i : Nat} (hi : i < n) : w.cell? ⟨gb, i, none⟩ = some (.slice (A i) (Z i).length (C i)) := by
  simp [World.cell?, h.at_, atCells, hi]
theorem At.free (h : At B w gb n A C Z) (i : Nat) : w.frozen? ⟨gb, i, none⟩ = false := by simp [World.frozen?, h.at_]
theorem At.lt (h : At B w gb n A C Z) : gb < w.heap.size := (Array.getElem?_eq_some_iff.1 h.at_).1
theorem At.ne (h : At B w gb n A C Z) {i : Nat} (hi : i < n) : blk (A i) ≠ some gb := by
  intro e
  rcases (h.own i hi).shape with ⟨ha, _⟩ | ⟨g, cur, ha, hh, _⟩
  · rw [ha] at e; cases e
  · rw [ha] at e
    simp [blk] at e
    rw [e, h.at_] at hh
    simp at hh
theorem At.kept (h : At B w gb n A C Z) {w' : World} {row : Option Nat} (hg : w.grownBy w' row) (hr : row ≠ some gb) (hrs : ∀ i g, i < n → blk (A i) = some g → row ≠ some g) : At B w' gb n A C Z :=
  ⟨(hg.block gb h.lt (fun e => hr e.symm)).trans h.at_, fun i hi => (h.own i hi).kept hg (fun g hgb => hrs i g hi hgb), h.apart, h.low, h.lows⟩
theorem At.alloc (h : At B w gb n A C Z) (o : Obj) : At B (w.alloc o) gb n A C Z := h.kept (World.grownBy_alloc w o none) (by simp) (by simp)

theorem At.congr {Z' : Nat → List Int} (h : At B w gb n A C Z) (hz : ∀ i, i < n → Z' i = Z i) : At B w gb n A C Z' := by
  refine ⟨?_, fun i hi => by rw [hz i hi]; exact h.own i hi, h.apart, h.low, h.lows⟩
  rw [h.at_]
  congr 2
  simp only [atCells]
  congr 1
  exact List.map_congr_left fun i hi => by rw [hz i (List.mem_range.1 hi)]

theorem atCells_upd (k : Nat) (a' : Option Addr) (c' : Nat) (z' : List Int) : (atCells n A C Z).setIfInBounds k (.slice a' z'.length c') = atCells n (upd A k a') (upd C k c') (upd Z k z') := by
  apply Array.ext
  · simp [atCells]
  · intro i h1 h2
    simp [atCells] at h1 h2
    simp only [atCells, List.getElem_toArray, List.getElem_map, List.getElem_range]
    by_cases hik : k = i
    · subst hik; simp [upd]
    · have : ¬ i = k := fun e => hik e.symm
      simp [upd, hik, this]

/-- A row appended to and stored back. -/
theorem At.append (h : At B w gb n A C Z) {k : Nat} (hk : k < n) {w1 : World} {g cap : Nat} {x : Int}
    (ho : Own w1 21 1 (some ⟨g, 0, none⟩) ((Z k).length + 1) cap (ints (Z k) ++ [.int .i32 x])) (hg : w.grownBy w1 (blk (A k))) (hB : B ≤ w.heap.size) (hw : A k = some ⟨g, 0, none⟩ ∨ w.heap.size ≤ g) :
    At B (w1.setCell ⟨gb, k, none⟩ (.slice (some ⟨g, 0, none⟩) ((Z k).length + 1) cap)) gb n (upd A k (some ⟨g, 0, none⟩)) (upd C k cap) (upd Z k (Z k ++ [x])) := by
  have hat : w1.heap[gb]? = some (.cells (atCells n A C Z) 33 (0, 0)) := (hg.block gb h.lt (fun e => h.ne hk e.symm)).trans h.at_
  have hgne : g ≠ gb := by
    intro e
    rcases hw with hw | hw
    · exact h.ne hk (by rw [hw, e]; rfl)
    · have := h.lt; omega
  have hlen : (Z k).length + 1 = (Z k ++ [x]).length := by simp
  have hs := grownBy_setCell w1 ⟨gb, k, none⟩ (.slice (some ⟨g, 0, none⟩) ((Z k).length + 1) cap)
  have hgnew : ∀ i g', i < n → i ≠ k → blk (A i) = some g' → g' ≠ g := by
    intro i g' hi hik hb e
    subst e
    rcases hw with hw | hw
    · exact h.apart i k g' hi hk hik hb (by rw [hw]; rfl)
    · have := (h.own i hi).lt g' hb; omega
  refine ⟨?_, ?_, ?_, h.low, ?_⟩
  · rw [heap_setCell_at _ _ _ _ _ _ hat, hlen, atCells_upd]
  · intro i hi
    by_cases hik : i = k
    · subst hik
      simp only [upd_same]
      rw [← hlen, ints_append]
      exact ho.kept hs (fun g' hb e => by simp [blk] at hb; simp at e; omega)
    · simp only [upd_ne _ _ _ hik]
      refine ((h.own i hi).kept hg (fun g' hb e => h.apart i k g' hi hk hik hb e)).kept hs (fun g' hb e => ?_)
      simp at e
      exact h.ne hi (by rw [hb, e])
  · intro i j g' hi hj hij hb
    by_cases hik : i = k
    · subst hik
      rw [upd_same] at hb
      rw [upd_ne _ _ _ (fun e => hij e.symm)]
      intro hb'
      simp [blk] at hb
      exact hgnew j g' hj (fun e => hij e.symm) hb' hb.symm
    · rw [upd_ne _ _ _ hik] at hb
      by_cases hjk : j = k
      · subst hjk
        rw [upd_same]
        intro hb'
        simp [blk] at hb'
        exact hgnew i g' hi hik hb hb'.symm
      · rw [upd_ne _ _ _ hjk]
        exact h.apart i j g' hi hj hij hb
  · intro i g' hi hb
    by_cases hik : i = k
    · subst hik
      rw [upd_same] at hb
      simp [blk] at hb
      rcases hw with hw | hw
      · exact h.lows i g' hi (by rw [hw, ← hb]; rfl)
      · omega
    · rw [upd_ne _ _ _ hik] at hb
      exact h.lows i g' hi hb

/-- The cell that the row is stored back into, behind the append. -/
theorem At.behind (h : At B w gb n A C Z) {k : Nat} (hk : k < n) {w1 : World} (hg : w.grownBy w1 (blk (A k))) : w1.cell? ⟨gb, k, none⟩ = some (.slice (A k) (Z k).length (C k)) ∧ w1.frozen? ⟨gb, k, none⟩ = false := by
  have hk1 : w1.heap[gb]? = w.heap[gb]? := hg.block gb h.lt (fun e => h.ne hk e.symm)
  exact ⟨(World.cell?_of_block hk1).trans (h.cell hk), (World.frozen?_of_block hk1).trans (h.free k)⟩

/-- As 'make' lays it. -/
theorem at_made (w : World) (n : Nat) : At w.heap.size (w.alloc (.cells (madeCells #[Value.slice none 0 0] n) 33)) w.heap.size n (fun _ => none) (fun _ => 0) (fun _ => []) := by
  refine ⟨?_, fun i _ => Own.nil _ _ _, fun i j g _ _ _ hb => by simp [blk] at hb, Nat.le_refl _, fun i g _ hb => by simp [blk] at hb⟩
  rw [heap_alloc_new]
  congr 2
  apply Array.ext'
  rw [toList_madeCells_one]
  simp only [atCells, List.length_nil]
  rw [List.map_const', List.length_range]
end

/-- The rows of bytes that came in. -/
structure InRows (w : World) (a : Option Addr) (m : Nat) (A : Nat → Option Addr) (L C : Nat → Nat) (D : Nat → Nat → Int) : Prop where
  outer : In1 w a m (fun i => .slice (A i) (L i) (C i))
  inner : ∀ i, i < m → In1 w (A i) (L i) (fun j => .int .u8 (D i j))
  fits : ∀ i j, 0 ≤ D i j ∧ D i j ≤ 255

theorem InRows.below {w w' : World} {a : Option Addr} {m : Nat} {A : Nat → Option Addr} {L C : Nat → Nat} {D : Nat → Nat → Int} (h : InRows w a m A L C D) (hb : Below w.heap.size w w') : InRows w' a m A L C D :=
  ⟨h.outer.below hb, fun i hi => (h.inner i hi).below hb, h.fits⟩

/-- What row i holds when the first k rows are done. -/
def zk (m : Nat) (L : Nat → Nat) (D : Nat → Nat → Int) (k : Nat) : Nat → List Int := fun i => if i < k ∧ i < m then pre (D i) (L i) else []

theorem zk_next (m : Nat) (L : Nat → Nat) (D : Nat → Nat → Int) (k q i : Nat) (hkm : k < m) (hl : L k = q) : zk m L D (k + 1) i = upd (zk m L D k) k (pre (D k) q) i := by
  by_cases e : i = k
  · subst e; simp [zk, upd, hkm, hl]
  · by_cases h : i < k
    · simp [zk, upd, e, h, show i < k + 1 by omega]
    · simp [zk, upd, e, h, show ¬ i < k + 1 by omega]
theorem zk_skip (m : Nat) (L : Nat → Nat) (D : Nat → Nat → Int) (k i : Nat) (hkm : ¬ k < m) : zk m L D (k + 1) i = zk m L D k i := by
  by_cases h : i < m
  · simp [zk, h, show (i < k + 1) = (i < k) from propext ⟨fun _ => by omega, fun _ => by omega⟩]
  · simp [zk, h]

/-- A factorCounts that the call itself has made. -/
structure Fc (B : Nat) (w : World) (fb n : Nat) (zs : Nat → Int) (Z : Nat → List Int) : Prop where
  ex : ∃ gat gnd A C, w.heap[fb]? = some (.cells #[.slice (some ⟨gat, 0, none⟩) n n, .slice none 0 0, .slice (some ⟨gnd, 0, none⟩) n n, .int .i64 0, .slice none 0 0, .slice none 0 0, .int .i64 0] 35 (0, 0)) ∧
    At B w gat n A C Z ∧ w.heap[gnd]? = some (.cells ((List.range n).map fun i => Value.int .i64 (zs i)).toArray 3 (0, 0)) ∧ B ≤ fb ∧ B ≤ gnd

theorem build_mid {B : Nat} {w : World} {gb n k q : Nat} {A : Nat → Option Addr} {C : Nat → Nat} {Zs : Nat → List Int} {D : Nat → Int} {o : Obj} {w1 : World} (h : At B w gb n A C (upd Zs k (pre D q))) (hk : k < n) (hg : (w.alloc o).grownBy w1 (blk (A k))) :
    w1.cell? ⟨gb, k, none⟩ = some (.slice (A k) q (C k)) ∧ w1.frozen? ⟨gb, k, none⟩ = false := by
  have := (h.alloc o).behind hk hg
  simpa [upd, pre_length] using this

/-- What the round of the inner loop leaves. -/
theorem build_next {B : Nat} {w w0 : World} {gb n k q : Nat} {A : Nat → Option Addr} {C : Nat → Nat} {Zs : Nat → List Int} {D : Nat → Int} {o : Obj} {w1 : World} (h : At B w gb n A C (upd Zs k (pre D q))) (hk : k < n) (hb : Below B w0 w) (hB : B ≤ w.heap.size) (hg : (w.alloc o).grownBy w1 (blk (A k)))
    {g cap : Nat} (ho : Own w1 21 1 (some ⟨g, 0, none⟩) (q + 1) cap (ints (pre D q) ++ [.int .i32 (S D q + D q)])) (hw : A k = some ⟨g, 0, none⟩ ∨ g = (w.alloc o).heap.size) :
    Below B w0 (w1.setCell ⟨gb, k, none⟩ (.slice (some ⟨g, 0, none⟩) (q + 1) cap)) ∧ ∃ A C, At B (w1.setCell ⟨gb, k, none⟩ (.slice (some ⟨g, 0, none⟩) (q + 1) cap)) gb n A C (upd Zs k (pre D (q + 1))) := by
  have hz : upd Zs k (pre D q) k = pre D q := upd_same _ _ _
  have hl : (upd Zs k (pre D q) k).length = q := by rw [hz, pre_length]
  have hlow := (h.alloc o).lows
  refine ⟨(((hb.alloc hB o).grown hg (by simp; omega) (fun g' hb' => hlow k g' hk hb')).setCell h.low _), ?_⟩
  have := (h.alloc o).append hk (w1 := w1) (g := g) (cap := cap) (x := S D q + D q) (by rw [hl, hz]; exact ho) hg (by simp; omega) (by rcases hw with e | e; exact .inl e; exact .inr (by omega))
  rw [hl, hz] at this
  refine ⟨_, _, this.congr (fun i _ => ?_)⟩
  by_cases e : i = k
  · subst e; simp only [upd_same]; rw [pre_succ]; rfl
  · simp only [upd_ne _ _ _ e]

/-- Behind the copy and the struct. -/
theorem build_end {w wr w2 : World} {k : Nat} {A : Nat → Option Addr} {C : Nat → Nat} {Z : Nat → List Int} {zs : Nat → Int} {o : Obj} (hA : At w.heap.size wr w.heap.size k A C Z) (hb : Below w.heap.size w wr)
    (hnd : w2.heap[wr.heap.size]? = some (.cells ((List.range k).map fun i => Value.int .i64 (zs i)).toArray 3 (0, 0))) (hg : (wr.alloc o).grownBy w2 (some wr.heap.size)) (fs : Obj) :
    Below w.heap.size w (w2.alloc fs) ∧ At w.heap.size (w2.alloc fs) w.heap.size k A C Z ∧ (w2.alloc fs).heap[wr.heap.size]? = some (.cells ((List.range k).map fun i => Value.int .i64 (zs i)).toArray 3 (0, 0)) ∧ w.heap.size ≤ w2.heap.size ∧ w.heap.size ≤ wr.heap.size := by
  have hs := hb.size
  have hs2 := hg.size
  rw [World.size_alloc] at hs2
  have hB2 : Below w.heap.size w w2 := (hb.alloc hs o).grown hg (by simp; omega) (fun k e => by simp at e; omega)
  refine ⟨hB2.alloc (by omega) fs, ?_, ?_, by omega, hs⟩
  · refine ((hA.alloc o).kept hg ?_ ?_).alloc fs
    · have := hA.lt
      intro e; simp at e; omega
    · intro i g hi hbk e
      have := (hA.own i hi).lt g hbk
      simp at e
      omega
  · rw [Below.heap_alloc _ _ _ (by omega)]
    exact hnd

def buildR (w : World) (n : Nat) (zs : Nat → Int) (Z : Nat → List Int) (e : Ending) (w' : World) : Prop := ∃ fb, e = .returned (.pointer (some ⟨fb, 0, none⟩)) ∧ Fc w.heap.size w' fb n zs Z ∧ Below w.heap.size w w'

set_option maxHeartbeats 1600000 in
set_option maxRecDepth 100000 in
/-- zzs2081abuild. -/
theorem build_any (a0 : Option Addr) (n c0 : Nat) (zs : Nat → Int) (a1 : Option Addr) (m c1 : Nat) (A1 : Nat → Option Addr) (L C1 : Nat → Nat) (D : Nat → Nat → Int) (w : World)
    (h0 : In1 w a0 n (fun i => .int .i64 (zs i))) (h1 : InRows w a1 m A1 L C1 D) (hn : n ≤ 1024) (_hm : m ≤ 1024) (hL : ∀ i, i < m → L i ≤ 1024) :
    Calls Yba.prog 10 #[.slice a0 n c0, .slice a1 m c1] w (buildR w n zs (zk m L D n)) := by
  obtain ⟨i33, hi33, hz330, hz331, hz332⟩ := info_parts Yba.info33
  obtain ⟨i21, hi21, hz210, hz211, hz212⟩ := info_parts Yba.info21
  obtain ⟨i3, hi3, hz30, hz31, hz32⟩ := info_parts Yba.info3
  go_enter Yba.func10, Yba.ntmps10
  go_wp2_with (at_make; refine wpList_make_mine _ rfl (.tmp 12) (.tmp 12) 31 rfl 33 i33 (.slice none 0 0) 1 24 Yba.underlying31 hi33 hz330 hz331 hz332 .i64 .i64 n n _ _ rfl rfl rfl rfl (Nat.le_refl _) (by omega) (by omega) ?_)
  have hA0 := at_made w n
  have hb0 : Below w.heap.size w (w.alloc (.cells (madeCells #[Value.slice none 0 0] n) 33)) := (Below.refl _ w).alloc (Nat.le_refl _) _
  generalize w.alloc (.cells (madeCells #[Value.slice none 0 0] n) 33) = w0 at *
  go_loopw [6] (fun i wr => ∃ k : Nat, k ≤ n ∧ i = .int .i64 k ∧ Below w.heap.size w wr ∧ ∃ A C, At w.heap.size wr w.heap.size n A C (zk m L D k)) (fun i _ => n - (intOf i).toNat)
  case atStart => exact ⟨0, Nat.zero_le _, rfl, hb0, _, _, hA0.congr (by simp [zk])⟩
  case round =>
    obtain ⟨k, hk, rfl, hb, A, C, hA⟩ := hrel
    clear hb0 hA0
    by_cases hlt : k < n
    · by_cases hkm : k < m
      · have hr := h1.below hb
        have hin := hr.inner k hkm
        have hfit := hr.fits k
        obtain ⟨b1, o1, rfl, _, hc1⟩ : ∃ b o, a1 = some ⟨b, o, none⟩ ∧ b < wr.heap.size ∧ ∀ i, i < m → wr.cell? ⟨b, o + i, none⟩ = some (.slice (A1 i) (L i) (C1 i)) := by
          rcases hr.outer with h | h
          · omega
          · exact h
        have hck := hc1 k hkm
        clear hc1 hr hin
        have hLk := hL k hkm
        have Hh0 : Hid (In1 w a0 n (fun i => .int .i64 (zs i))) := h0
        have Hh1 : Hid (InRows w (some ⟨b1, o1, none⟩) m A1 L C1 D) := h1
        have HL : Hid (∀ i, i < m → L i ≤ 1024) := hL
        clear h0 h1 hL
        have Hin : Hid (In1 w (A1 k) (L k) (fun j => .int .u8 (D k j))) := Hh1.out.inner k hkm
        have HS := S_bound (D k) hfit
        have HfS : Hid ((∀ q, 0 ≤ S (D k) q ∧ S (D k) q ≤ 255 * q) ∧ ∀ j, 0 ≤ D k j ∧ D k j ≤ 255) := ⟨HS, hfit⟩
        clear HS hfit
        generalize A1 k = a2 at *
        obtain ⟨l2, hl2⟩ : ∃ l2, L k = l2 := ⟨_, rfl⟩
        rw [hl2] at hck hLk Hin
        have Hl2 : Hid (L k = l2) := hl2
        clear hl2
        go_wp2_with fail
        go_loopw [7, 29] (fun p j wr => ∃ q : Nat, q ≤ l2 ∧ j = .int .i64 q ∧ p = .int .i32 (S (D k) q) ∧ Below w.heap.size w wr ∧ ∃ A C, At w.heap.size wr w.heap.size n A C (upd (zk m L D k) k (pre (D k) q))) (fun _ j _ => l2 - (intOf j).toNat)
        case atStart => exact ⟨0, Nat.zero_le _, rfl, rfl, hb, _, _, hA.congr (fun i _ => by by_cases e : i = k <;> simp [upd, e, zk, pre])⟩
        case round =>
          obtain ⟨q, hq, rfl, rfl, hb, A, C, hA⟩ := hrel
          by_cases hql : q < l2
          · obtain ⟨b2, o2, rfl, _, hc2⟩ : ∃ b o, a2 = some ⟨b, o, none⟩ ∧ b < wr.heap.size ∧ ∀ j, j < l2 → wr.cell? ⟨b, o + j, none⟩ = some (.int .u8 (D k j)) := by
              rcases Hin.out.below hb with h | h
              · omega
              · exact h
            have hcq := hc2 q hql
            clear hc2
            have hs1 := HfS.out.1 q
            have hs2 := HfS.out.2 q
            have hs3 : S (D k) q + D k q ≤ 300000 := by omega
            have hcat : wr.cell? ⟨w.heap.size, k, none⟩ = some (.slice (A k) q (C k)) := by have := hA.cell hlt; simpa [upd, pre_length] using this
            have ho : Own (wr.alloc (.cells #[.int .i32 (S (D k) q + D k q)] 21)) 21 1 (A k) q (C k) (ints (pre (D k) q)) := by have := (hA.alloc (.cells #[.int .i32 (S (D k) q + D k q)] 21)).own k hlt; simpa [upd, pre_length] using this
            have HA : Hid (At w.heap.size wr w.heap.size n A C (upd (zk m L D k) k (pre (D k) q))) := hA
            have hBw : w.heap.size ≤ wr.heap.size := hb.size
            clear hA
            go_wp2_with (at_builtin; refine wpList_append_mine _ rfl (.tmp 42) (.tmp 44) 33 rfl 21 i21 (.int .i32 0) 1 4 Yba.underlying33 hi21 hz210 hz211 hz212 rfl (by decide) (A k) q (C k) (ints (pre (D k) q)) rfl ho ⟨wr.heap.size, 0, none⟩ 1 1 (by decide) [.int .i32 (S (D k) q + D k q)] rfl rfl (cell_one_new _ _ _) (by simp [Value.oneCell']) (by unfold maxLen; omega) (by omega) ?_; intro g cap w1 hown' hgrow hg; obtain ⟨hcb, hfb⟩ := build_mid HA.out hlt hgrow)
            have R := build_next HA.out hlt hb hBw hgrow hown' hg
            clear hown' hgrow hg hcb hfb ho hcat hcq hs1 hs2 hs3
            go_roundw
            case rel => exact ⟨q + 1, by omega, by go_num, rfl, R⟩
            case measure => simp [intOf]; omega
          · obtain rfl : q = l2 := by omega
            have HA : Hid (At w.heap.size wr w.heap.size n A C (upd (zk m L D k) k (pre (D k) q))) := hA
            clear hA
            go_wp2_with fail
            go_roundw
            case rel => exact ⟨k + 1, by omega, by go_num, hb, A, C, HA.out.congr (fun i _ => zk_next m L D k q i hkm Hl2.out)⟩
            case measure => simp [intOf]; omega
      · have Hh0 : Hid (In1 w a0 n (fun i => .int .i64 (zs i))) := h0
        have Hh1 : Hid (InRows w a1 m A1 L C1 D) := h1
        have HL : Hid (∀ i, i < m → L i ≤ 1024) := hL
        have HA : Hid (At w.heap.size wr w.heap.size n A C (zk m L D k)) := hA
        clear h0 h1 hL hA
        go_wp2_with fail
        go_roundw
        case rel => exact ⟨k + 1, by omega, by go_num, hb, A, C, HA.out.congr (fun i _ => zk_skip m L D k i hkm)⟩
        case measure => simp [intOf]; omega
    · obtain rfl : k = n := by omega
      have h0' := h0.below hb
      clear h0 h1 hL
      go_wp2_with (first | (at_make; refine wpList_make_mine _ rfl (.tmp 49) (.tmp 49) 22 rfl 3 i3 (.int .i64 0) 1 8 Yba.underlying22 hi3 hz30 hz31 hz32 .i64 .i64 k k _ _ rfl rfl rfl rfl (Nat.le_refl _) (by omega) (by omega) ?_) | (refine wpList_copy_mine _ rfl (.tmp 51) (.tmp 52) 22 22 rfl 3 Yba.underlying22 Yba.size3 wr.heap.size k k _ _ rfl rfl (fun i => .int .i64 (zs i)) (h0'.below ((Below.refl _ wr).alloc (Nat.le_refl _) _)) (fun _ _ => rfl) _ 3 (heap_alloc_new wr _) ?_ ?_))
      · exact size_madeCells _ _
      · intro w2 hnd hg2
        have HF : Hid (∀ fs, Below w.heap.size w (w2.alloc fs) ∧ At w.heap.size (w2.alloc fs) w.heap.size k A C (zk m L D k) ∧ (w2.alloc fs).heap[wr.heap.size]? = some (.cells ((List.range k).map fun i => Value.int .i64 (zs i)).toArray 3 (0, 0)) ∧ w.heap.size ≤ w2.heap.size ∧ w.heap.size ≤ wr.heap.size) := build_end hA hb hnd hg2
        clear hA hnd hg2 h0'
        go_wp2_with fail
        go_ret
        obtain ⟨f1, f2, f3, f4, f5⟩ := HF.out (.cells #[.slice (some ⟨w.heap.size, 0, none⟩) k k, .slice none 0 0, .slice (some ⟨wr.heap.size, 0, none⟩) k k, .int .i64 0, .slice none 0 0, .slice none 0 0, .int .i64 0] 35)
        exact ⟨_, rfl, ⟨_, _, _, _, heap_alloc_new _ _, f2, f3, f4, f5⟩, f1⟩
end Go.Proofs.Ybulkaqbo
