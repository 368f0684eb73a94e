import Derived.Test.YbulkaqboGraph
import Derived.BigQuiet
import Derived.Deep.QuietTactic
namespace Go.Proofs.Ybulkaqbo
open Go.RowKit

/-- zzs2081bname. -/
def nameOf (i : Int) : ByteArray :=
  if i % 8 = 0 then ⟨#[97]⟩ else if i % 8 = 1 then ⟨#[98, 98]⟩ else if i % 8 = 2 then ⟨#[99, 46, 100]⟩ else if i % 8 = 3 then ⟨#[120, 95, 49]⟩ else
  if i % 8 = 4 then ⟨#[97, 116]⟩ else if i % 8 = 5 then ⟨#[110, 45, 50]⟩ else if i % 8 = 6 then ⟨#[113, 58, 114]⟩ else ⟨#[90]⟩

theorem nameOf_size (i : Int) : 1 ≤ (nameOf i).size ∧ (nameOf i).size ≤ 3 := by
  unfold nameOf
  repeat' split
  all_goals decide

set_option maxRecDepth 100000 in
theorem name_any (i : Int) (h0 : 0 ≤ i) (h1 : i ≤ 255) (w : World) : Calls Yba.prog 16 #[.int .u8 i] w fun e w' => e = .returned (.string (nameOf i)) ∧ w' = w := by
  have hc : i % 8 = 0 ∨ i % 8 = 1 ∨ i % 8 = 2 ∨ i % 8 = 3 ∨ i % 8 = 4 ∨ i % 8 = 5 ∨ i % 8 = 6 ∨ i % 8 = 7 := by omega
  rcases hc with h | h | h | h | h | h | h | h
  all_goals
    have hn : nameOf i = nameOf i := rfl
    conv at hn => rhs; simp only [nameOf, h]
    simp at hn
    have HN := (show Hid (nameOf i = _) from hn)
    clear hn
    go_enter Yba.func16, Yba.ntmps16
    go_wp2
    go_ret
    exact ⟨by rw [HN.out]; rfl, rfl⟩

/-- A whole block of N cells, told by a function. -/
def RowF (w : World) (b : Nat) (t : TypeId) (N : Nat) (f : Nat → Value) : Prop := w.heap[b]? = some (.cells ((List.range N).map f).toArray t (0, 0))

section
variable {w : World} {b : Nat} {t : TypeId} {N : Nat} {f : Nat → Value}
theorem RowF.cell (h : RowF w b t N f) {i : Nat} (hi : i < N) : w.cell? ⟨b, i, none⟩ = some (f i) := by
  unfold RowF at h
  simp [World.cell?, h, hi]
theorem RowF.free (h : RowF w b t N f) (i : Nat) : w.frozen? ⟨b, i, none⟩ = false := by
  unfold RowF at h
  simp [World.frozen?, h]
theorem RowF.lt (h : RowF w b t N f) : b < w.heap.size := (Array.getElem?_eq_some_iff.1 h).1
theorem RowF.kept (h : RowF w b t N f) {w' : World} {row : Option Nat} (hg : w.grownBy w' row) (hr : row ≠ some b) : RowF w' b t N f := (hg.block b h.lt (fun e => hr e.symm)).trans h
theorem RowF.same (h : RowF w b t N f) {w' : World} (hs : w'.heap[b]? = w.heap[b]?) : RowF w' b t N f := hs.trans h
theorem RowF.congr (h : RowF w b t N f) {g : Nat → Value} (hg : ∀ i, i < N → g i = f i) : RowF w b t N g := by
  unfold RowF at *
  rw [h]
  congr 3
  exact (List.map_congr_left fun i hi => (hg i (List.mem_range.1 hi))).symm
theorem RowF.store (h : RowF w b t N f) (i : Nat) (v : Value) : RowF (w.setCell ⟨b, i, none⟩ v) b t N (upd f i v) := by
  unfold RowF at *
  rw [heap_setCell_at _ _ _ _ _ _ h]
  congr 2
  apply Array.ext
  · simp
  · intro j h1 h2
    simp at h1 h2
    simp only [List.getElem_toArray, List.getElem_map, List.getElem_range]
    by_cases e : i = j
    · subst e; simp [upd]
    · have : ¬ j = i := fun e' => e e'.symm
      simp [upd, e, this]
theorem RowF.other (h : RowF w b t N f) {b' i : Nat} (hb : b' ≠ b) (v : Value) : RowF (w.setCell ⟨b', i, none⟩ v) b t N f := h.same (Below.heap_setCell w ⟨b', i, none⟩ v b (fun e => hb e.symm))
theorem RowF.alloc (h : RowF w b t N f) (o : Obj) : RowF (w.alloc o) b t N f := h.kept (World.grownBy_alloc w o none) (by simp)
end

/-- M rows of int32 of the call's own, no two of them one; where they may lie: L. -/
structure Fam (L : Nat → Prop) (w : World) (M : Nat) (A : Nat → Option Addr) (C : Nat → Nat) (Z : Nat → List Int) : Prop where
  own : ∀ i, i < M → Own w 21 1 (A i) (Z i).length (C i) (ints (Z i))
  apart : ∀ i j g, i < M → j < M → i ≠ j → blk (A i) = some g → blk (A j) ≠ some g
  lies : ∀ i g, i < M → blk (A i) = some g → L g

section
variable {L : Nat → Prop} {w : World} {M : Nat} {A : Nat → Option Addr} {C : Nat → Nat} {Z : Nat → List Int}
theorem Fam.kept (h : Fam L w M A C Z) {w' : World} {row : Option Nat} (hg : w.grownBy w' row) (hrs : ∀ g, row = some g → ¬ L g) : Fam L w' M A C Z :=
  ⟨fun i hi => (h.own i hi).kept hg (fun g hgb e => hrs g e (h.lies i g hi hgb)), h.apart, h.lies⟩
theorem Fam.alloc (h : Fam L w M A C Z) (o : Obj) : Fam L (w.alloc o) M A C Z := h.kept (World.grownBy_alloc w o none) (by simp)
theorem Fam.other (h : Fam L w M A C Z) {b i : Nat} (hb : ¬ L b) (v : Value) : Fam L (w.setCell ⟨b, i, none⟩ v) M A C Z := h.kept (grownBy_setCell w ⟨b, i, none⟩ v) (fun g e => by simp at e; rw [← e]; exact hb)
theorem Fam.same (h : Fam L w M A C Z) {w' : World} (hs : ∀ g, L g → w'.heap[g]? = w.heap[g]?) : Fam L w' M A C Z := by
  refine ⟨fun i hi => ?_, h.apart, h.lies⟩
  rcases (h.own i hi).shape with ⟨ha, hn, hc, hz⟩ | ⟨g, cur, ha, hh, h1, h2, h3, h4⟩
  · rw [ha, hn, hc, hz]; exact Own.nil _ _ _
  · rw [ha]
    exact Own.mk ((hs g (h.lies i g hi (by rw [ha]; rfl))).trans hh) h1 h2 h3 h4

/-- One of them appended to. -/
theorem Fam.append (h : Fam L w M A C Z) {k n : Nat} (hk : k < M) (hn : (Z k).length = n) {w1 : World} {g cap : Nat} {x : Int}
    (ho : Own w1 21 1 (some ⟨g, 0, none⟩) (n + 1) cap (ints (Z k) ++ [.int .i32 x])) (hg : w.grownBy w1 (blk (A k))) (hw : A k = some ⟨g, 0, none⟩ ∨ g = w.heap.size) (hL : L w.heap.size) :
    Fam L w1 M (upd A k (some ⟨g, 0, none⟩)) (upd C k cap) (upd Z k (Z k ++ [x])) := by
  subst hn
  have hgnew : ∀ i g', i < M → i ≠ k → blk (A i) = some g' → g' ≠ g := by
    intro i g' hi hik hb e
    subst e
    rcases hw with hw | hw
    · exact h.apart i k g' hi hk hik hb (by rw [hw]; rfl)
    · have := (h.own i hi).lt g' hb; omega
  refine ⟨?_, ?_, ?_⟩
  · intro i hi
    by_cases hik : i = k
    · subst hik
      simp only [upd_same]
      rw [List.length_append, ints_append]
      exact ho
    · simp only [upd_ne _ _ _ hik]
      exact (h.own i hi).kept hg (fun g' hb e => h.apart i k g' hi hk hik hb e)
  · intro i j g' hi hj hij hb
    by_cases hik : i = k
    · subst hik
      rw [upd_same] at hb
      rw [upd_ne _ _ _ (fun e => hij e.symm)]
      intro hb'
      simp [blk] at hb
      exact hgnew j g' hj (fun e => hij e.symm) hb' hb.symm
    · rw [upd_ne _ _ _ hik] at hb
      by_cases hjk : j = k
      · subst hjk
        rw [upd_same]
        intro hb'
        simp [blk] at hb'
        exact hgnew i g' hi hik hb hb'.symm
      · rw [upd_ne _ _ _ hjk]
        exact h.apart i j g' hi hj hij hb
  · intro i g' hi hb
    by_cases hik : i = k
    · subst hik
      rw [upd_same] at hb
      simp [blk] at hb
      rcases hw with hw | hw
      · exact h.lies i g' hi (by rw [hw, ← hb]; rfl)
      · rw [← hb, hw]; exact hL
    · rw [upd_ne _ _ _ hik] at hb
      exact h.lies i g' hi hb
end

/-- The data of the processes that came in. -/
structure Procs where
  nm : Nat → Int
  ln : Nat → Int
  wt : Nat → Bool
  nd : Nat → Int
  ta : Nat → Option Addr
  tl : Nat → Nat
  tc : Nat → Nat
  td : Nat → Nat → Int

structure InProcs (w : World) (a : Option Addr) (n : Nat) (p : Procs) : Prop where
  outer : n = 0 ∨ ∃ b o, a = some ⟨b, o, none⟩ ∧ b < w.heap.size ∧ ∀ i, i < n → w.cell? ⟨b, o + i * 5, none⟩ = some (.int .u8 (p.nm i)) ∧ w.cell? ⟨b, o + i * 5 + 1, none⟩ = some (.int .i64 (p.ln i)) ∧
    w.cell? ⟨b, o + i * 5 + 2, none⟩ = some (.bool (p.wt i)) ∧ w.cell? ⟨b, o + i * 5 + 3, none⟩ = some (.int .u8 (p.nd i)) ∧ w.cell? ⟨b, o + i * 5 + 4, none⟩ = some (.slice (p.ta i) (p.tl i) (p.tc i))
  inner : ∀ i, i < n → In1 w (p.ta i) (p.tl i) (fun j => .int .u8 (p.td i j))
  nmOk : ∀ i, 0 ≤ p.nm i ∧ p.nm i ≤ 255
  ndOk : ∀ i, 0 ≤ p.nd i ∧ p.nd i ≤ 255
  tdOk : ∀ i j, 0 ≤ p.td i j ∧ p.td i j ≤ 255

theorem InProcs.below {w w' : World} {a : Option Addr} {n : Nat} {p : Procs} (h : InProcs w a n p) (hb : Below w.heap.size w w') : InProcs w' a n p := by
  refine ⟨?_, fun i hi => (h.inner i hi).below hb, h.nmOk, h.ndOk, h.tdOk⟩
  rcases h.outer with h | ⟨b, o, ha, hlt, hc⟩
  · exact .inl h
  · refine .inr ⟨b, o, ha, Nat.lt_of_lt_of_le hlt hb.size, fun i hi => ?_⟩
    have hx : ∀ q, w'.cell? ⟨b, q, none⟩ = w.cell? ⟨b, q, none⟩ := fun q => hb.cell (p := ⟨b, q, none⟩) hlt
    rw [hx, hx, hx, hx, hx]
    exact hc i hi

def bokR (n m : Nat) (p : Procs) (w : World) (e : Ending) (w' : World) : Prop := ∃ b, e = .returned (.bool b) ∧ w' = w ∧ (b = true → n ≤ 1024 ∧ m ≤ 1024 ∧ ∀ i, i < n → p.tl i ≤ 1024)

set_option maxRecDepth 100000 in
/-- zzs2081bsizesok. -/
theorem bok_any (a0 : Option Addr) (n c0 : Nat) (a1 : Option Addr) (m c1 : Nat) (p : Procs) (w : World) (h1 : InProcs w a0 n p) :
    Calls Yba.prog 13 #[.slice a0 n c0, .slice a1 m c1] w (bokR n m p w) := by
  by_cases hn0 : 1024 < n
  · go_enter Yba.func13, Yba.ntmps13
    go_wp2
    go_ret
    exact ⟨_, rfl, rfl, by simp⟩
  by_cases hn1 : 1024 < m
  · go_enter Yba.func13, Yba.ntmps13
    go_wp2
    go_ret
    exact ⟨_, rfl, rfl, by simp⟩
  have H1 : Hid (InProcs w a0 n p) := h1
  clear h1
  go_enter Yba.func13, Yba.ntmps13
  go_wp2
  go_loop [5] (fun i => ∃ k : Nat, k ≤ n ∧ i = .int .i64 k ∧ ∀ i, i < k → p.tl i ≤ 1024) (fun i => n - (intOf i).toNat)
  case atStart => exact ⟨0, Nat.zero_le _, rfl, by omega⟩
  case round =>
    obtain ⟨k, hk, rfl, hL⟩ := hrel
    have HL : Hid (∀ i, i < k → p.tl i ≤ 1024) := hL
    clear hL
    by_cases hlt : k < n
    · obtain ⟨b, o, rfl, hck⟩ : ∃ b o, a0 = some ⟨b, o, none⟩ ∧ w.cell? ⟨b, o + k * 5 + 4, none⟩ = some (.slice (p.ta k) (p.tl k) (p.tc k)) := by
        rcases H1.out.outer with h | ⟨b, o, ha, _, hc⟩
        · omega
        · exact ⟨b, o, ha, (hc k hlt).2.2.2.2⟩
      by_cases hLk : 1024 < p.tl k
      · go_wp2
        go_ret
        exact ⟨_, rfl, rfl, by simp⟩
      · go_wp2
        go_round
        case rel => exact ⟨k + 1, by omega, by go_num, fun i hi => by
          by_cases e : i = k
          · subst e; omega
          · exact HL.out i (by omega)⟩
        case measure => simp [intOf]; omega
    · go_wp2
      go_ret
      exact ⟨_, rfl, rfl, fun _ => ⟨by omega, by omega, fun i hi => HL.out i (by omega)⟩⟩
end Go.Proofs.Ybulkaqbo
