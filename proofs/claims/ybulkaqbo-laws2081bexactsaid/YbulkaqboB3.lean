import Derived.Test.YbulkaqboB2
namespace Go.Proofs.Ybulkaqbo
open Go.RowKit

theorem Yba.info9 : (Yba.prog.info? 9).map (fun i => (i.zero, i.size, i.bytes)) = some (some (.string ByteArray.empty), 1, 16) := by kernel_rfl
theorem Yba.info85 : (Yba.prog.info? 85).map (fun i => (i.zero, i.size, i.bytes)) = some (some (.agg #[.int .u32 0, .int .u16 0, .int .u8 0]), 3, 8) := by kernel_rfl
theorem Yba.info3' : (Yba.prog.info? 3).map (fun i => (i.zero, i.size, i.bytes)) = some (some (.int .i64 0), 1, 8) := by kernel_rfl

/-- The element types and the numbers of cells of the five blocks: names, references, first groups, end groups, lines. -/
def ty5 (i : Nat) : TypeId := if i = 0 then 9 else if i = 1 then 85 else if i = 4 then 3 else 21
def sz5 (n i : Nat) : Nat := if i = 1 then n * 3 else n
def sel5 (b0 b1 b2 b3 b4 : Nat) (i : Nat) : Nat := if i = 0 then b0 else if i = 1 then b1 else if i = 2 then b2 else if i = 3 then b3 else b4

/-- The build's memory: five whole blocks, four rows that grow. -/
structure Bs (w0 wr : World) (B : Nat) (b : Nat → Nat) (n : Nat) (f : Nat → Nat → Value) (A : Nat → Option Addr) (C : Nat → Nat) (Z : Nat → List Int) : Prop where
  bel : Below B w0 wr
  rows : ∀ i, i < 5 → RowF wr (b i) (ty5 i) (sz5 n i) (f i)
  dist : ∀ i j, i < 5 → j < 5 → i ≠ j → b i ≠ b j
  low : ∀ i, i < 5 → B ≤ b i
  fam : Fam (fun g => B ≤ g ∧ ∀ i, i < 5 → g ≠ b i) wr 4 A C Z

section
variable {w0 wr : World} {B : Nat} {b : Nat → Nat} {n : Nat} {f : Nat → Nat → Value} {A : Nat → Option Addr} {C : Nat → Nat} {Z : Nat → List Int}

theorem Bs.store (h : Bs w0 wr B b n f A C Z) {i : Nat} (hi : i < 5) (j : Nat) (v : Value) : Bs w0 (wr.setCell ⟨b i, j, none⟩ v) B b n (upd f i (upd (f i) j v)) A C Z := by
  refine ⟨h.bel.setCell (p := ⟨b i, j, none⟩) (h.low i hi) v, fun k hk => ?_, h.dist, h.low, h.fam.other (fun hL => hL.2 i hi rfl) v⟩
  by_cases e : k = i
  · subst e; rw [upd_same]; exact (h.rows k hk).store j v
  · rw [upd_ne _ _ _ e]; exact (h.rows k hk).other (h.dist i k hi hk (fun e' => e e'.symm)) v

theorem Bs.congr (h : Bs w0 wr B b n f A C Z) {g : Nat → Nat → Value} (hg : ∀ i, i < 5 → ∀ j, j < sz5 n i → g i j = f i j) : Bs w0 wr B b n g A C Z :=
  ⟨h.bel, fun i hi => (h.rows i hi).congr (hg i hi), h.dist, h.low, h.fam⟩

theorem Bs.congrZ (h : Bs w0 wr B b n f A C Z) {Z' : Nat → List Int} (hz : ∀ i, i < 4 → Z' i = Z i) : Bs w0 wr B b n f A C Z' :=
  ⟨h.bel, h.rows, h.dist, h.low, ⟨fun i hi => by rw [hz i hi]; exact h.fam.own i hi, h.fam.apart, h.fam.lies⟩⟩

theorem Bs.size (h : Bs w0 wr B b n f A C Z) (hB : B ≤ w0.heap.size) : B ≤ wr.heap.size := Nat.le_trans hB h.bel.size

theorem Bs.alloc (h : Bs w0 wr B b n f A C Z) (hB : B ≤ w0.heap.size) (o : Obj) : Bs w0 (wr.alloc o) B b n f A C Z :=
  ⟨h.bel.alloc (h.size hB) o, fun i hi => (h.rows i hi).alloc o, h.dist, h.low, h.fam.alloc o⟩

/-- One of the four rows appended to, behind the literal of one element. -/
theorem Bs.append (h : Bs w0 wr B b n f A C Z) (hB : B ≤ w0.heap.size) {k q : Nat} (hk : k < 4) (hq : (Z k).length = q) {o : Obj} {w1 : World} {g cap : Nat} {x : Int}
    (ho : Own w1 21 1 (some ⟨g, 0, none⟩) (q + 1) cap (ints (Z k) ++ [.int .i32 x])) (hg : (wr.alloc o).grownBy w1 (blk (A k))) (hw : A k = some ⟨g, 0, none⟩ ∨ g = (wr.alloc o).heap.size) :
    Bs w0 w1 B b n f (upd A k (some ⟨g, 0, none⟩)) (upd C k cap) (upd Z k (Z k ++ [x])) := by
  have h' := h.alloc hB o
  have hs := h.size hB
  refine ⟨h'.bel.grown hg (by simp; omega) (fun g' hb => (h.fam.lies k g' hk hb).1), fun i hi => (h'.rows i hi).kept hg (fun e => (h.fam.lies k (b i) hk e).2 i hi rfl), h.dist, h.low, h'.fam.append hk hq ho hg hw ⟨by simp; omega, fun i hi e => ?_⟩⟩
  have := (h.rows i hi).lt
  simp at e
  omega

theorem Bs.ownAt (h : Bs w0 wr B b n f A C Z) (hB : B ≤ w0.heap.size) {k q : Nat} (hk : k < 4) (hq : (Z k).length = q) (o : Obj) : Own (wr.alloc o) 21 1 (A k) q (C k) (ints (Z k)) := by
  have := (h.alloc hB o).fam.own k hk
  rwa [hq] at this
end

def refV (p : Procs) (k j : Nat) : Value := if j % 3 = 0 then .int .u32 (if j / 3 < k then (j / 3 : Nat) else 0) else if j % 3 = 1 then .int .u16 0 else .int .u8 (if j / 3 < k then (nameOf (p.nm (j / 3))).size else 0)
/-- What the five blocks hold when k processes are done. -/
def fk (p : Procs) (k i j : Nat) : Value :=
  if i = 0 then .string (if j < k then nameOf (p.nm j) else ByteArray.empty) else if i = 1 then refV p k j else if i = 2 then .int .i32 (if j < k then fgv p j else 0) else if i = 3 then .int .i32 (if j < k then egv p j else 0) else .int .i64 (if j < k then p.ln j else 0)
def zk4 (p : Procs) (n k i : Nat) : List Int := if i = 0 then fns p n k else if i = 1 then tgs p n k else if i = 2 then nds p k else ows p k

theorem rowF_made (w : World) (z : Value) (n : Nat) (t : TypeId) : RowF (w.alloc (.cells (madeCells #[z] n) t)) w.heap.size t n (fun _ => z) := by
  unfold RowF
  rw [heap_alloc_new]
  congr 2
  apply Array.ext'
  rw [toList_madeCells_one]
  show _ = (List.range n).map (fun _ => z)
  rw [List.map_const', List.length_range]

theorem rowF_made3 (w : World) (x y z : Value) (n : Nat) (t : TypeId) : RowF (w.alloc (.cells (madeCells #[x, y, z] (n * 3)) t)) w.heap.size t (n * 3) (fun j => if j % 3 = 0 then x else if j % 3 = 1 then y else z) := by
  unfold RowF
  rw [heap_alloc_new]
  congr 2
  apply Array.ext
  · simp [madeCells]
  · intro j h1 h2
    simp [madeCells]
    have h3 : j % 3 = 0 ∨ j % 3 = 1 ∨ j % 3 = 2 := by omega
    rcases h3 with h | h | h <;> simp [h]

theorem Bs.apart5 {w0 wr : World} {B b0 b1 b2 b3 b5 n : Nat} {f : Nat → Nat → Value} {A : Nat → Option Addr} {C : Nat → Nat} {Z : Nat → List Int} (h : Bs w0 wr B (sel5 b0 b1 b2 b3 b5) n f A C Z) :
    b0 ≠ b1 ∧ b0 ≠ b2 ∧ b0 ≠ b3 ∧ b0 ≠ b5 ∧ b1 ≠ b2 ∧ b1 ≠ b3 ∧ b1 ≠ b5 ∧ b2 ≠ b3 ∧ b2 ≠ b5 ∧ b3 ≠ b5 :=
  ⟨h.dist 0 1 (by omega) (by omega) (by omega), h.dist 0 2 (by omega) (by omega) (by omega), h.dist 0 3 (by omega) (by omega) (by omega), h.dist 0 4 (by omega) (by omega) (by omega), h.dist 1 2 (by omega) (by omega) (by omega),
    h.dist 1 3 (by omega) (by omega) (by omega), h.dist 1 4 (by omega) (by omega) (by omega), h.dist 2 3 (by omega) (by omega) (by omega), h.dist 2 4 (by omega) (by omega) (by omega), h.dist 3 4 (by omega) (by omega) (by omega)⟩
theorem Bs.low5 {w0 wr : World} {B b0 b1 b2 b3 b5 n bp : Nat} {f : Nat → Nat → Value} {A : Nat → Option Addr} {C : Nat → Nat} {Z : Nat → List Int} (h : Bs w0 wr B (sel5 b0 b1 b2 b3 b5) n f A C Z) (hp : bp < B) :
    b0 ≠ bp ∧ b1 ≠ bp ∧ b2 ≠ bp ∧ b3 ≠ bp ∧ b5 ≠ bp := by
  have h0 : B ≤ b0 := h.low 0 (by omega)
  have h1 : B ≤ b1 := h.low 1 (by omega)
  have h2 : B ≤ b2 := h.low 2 (by omega)
  have h3 : B ≤ b3 := h.low 3 (by omega)
  have h4 : B ≤ b5 := h.low 4 (by omega)
  omega
theorem Bs.at5 {w0 wr : World} {B b0 b1 b2 b3 b5 n k : Nat} {p : Procs} {A : Nat → Option Addr} {C : Nat → Nat} {Z : Nat → List Int} (h : Bs w0 wr B (sel5 b0 b1 b2 b3 b5) n (fk p k) A C Z) (hk : k < n) :
    wr.cell? ⟨b0, k, none⟩ = some (.string ByteArray.empty) ∧ wr.frozen? ⟨b0, k, none⟩ = false ∧ wr.cell? ⟨b1, k * 3, none⟩ = some (.int .u32 0) ∧ wr.frozen? ⟨b1, k * 3, none⟩ = false ∧ wr.cell? ⟨b1, k * 3 + 1, none⟩ = some (.int .u16 0) ∧ wr.frozen? ⟨b1, k * 3 + 1, none⟩ = false ∧ wr.cell? ⟨b1, k * 3 + 2, none⟩ = some (.int .u8 0) ∧ wr.frozen? ⟨b1, k * 3 + 2, none⟩ = false ∧
    wr.cell? ⟨b2, k, none⟩ = some (.int .i32 0) ∧ wr.frozen? ⟨b2, k, none⟩ = false ∧ wr.cell? ⟨b3, k, none⟩ = some (.int .i32 0) ∧ wr.frozen? ⟨b3, k, none⟩ = false ∧ wr.cell? ⟨b5, k, none⟩ = some (.int .i64 0) ∧ wr.frozen? ⟨b5, k, none⟩ = false := by
  have c0 := (h.rows 0 (by omega)).cell (i := k) (by simpa [sz5] using hk)
  have c1 := (h.rows 1 (by omega)).cell (i := k * 3) (by simp [sz5]; omega)
  have c2 := (h.rows 1 (by omega)).cell (i := k * 3 + 1) (by simp [sz5]; omega)
  have c3 := (h.rows 1 (by omega)).cell (i := k * 3 + 2) (by simp [sz5]; omega)
  have c4 := (h.rows 2 (by omega)).cell (i := k) (by simpa [sz5] using hk)
  have c5 := (h.rows 3 (by omega)).cell (i := k) (by simpa [sz5] using hk)
  have c6 := (h.rows 4 (by omega)).cell (i := k) (by simpa [sz5] using hk)
  have m1 : (k * 3 + 1) % 3 = 1 := by omega
  have m2 : (k * 3 + 2) % 3 = 2 := by omega
  have v1 : (k * 3 + 1) / 3 = k := by omega
  have v2 : (k * 3 + 2) / 3 = k := by omega
  refine ⟨by simpa [fk, sel5] using c0, (h.rows 0 (by omega)).free k, by simpa [fk, sel5, refV] using c1, (h.rows 1 (by omega)).free _, by simpa [fk, sel5, refV, m1] using c2, (h.rows 1 (by omega)).free _, by simpa [fk, sel5, refV, m2, v2] using c3, (h.rows 1 (by omega)).free _,
    by simpa [fk, sel5] using c4, (h.rows 2 (by omega)).free k, by simpa [fk, sel5] using c5, (h.rows 3 (by omega)).free k, by simpa [fk, sel5] using c6, (h.rows 4 (by omega)).free k⟩

/-- The five stores at the head of a round. -/
theorem bs_five {w0 wr : World} {B b0 b1 b2 b3 b5 n k : Nat} {p : Procs} {A : Nat → Option Addr} {C : Nat → Nat} {Z : Nat → List Int} {s : ByteArray} (h : Bs w0 wr B (sel5 b0 b1 b2 b3 b5) n (fk p k) A C Z) (hs : nameOf (p.nm k) = s) :
    Bs w0 (((((wr.setCell ⟨b0, k, none⟩ (.string s)).setCell ⟨b1, k * 3, none⟩ (.int .u32 k)).setCell ⟨b1, k * 3 + 1, none⟩ (.int .u16 0)).setCell ⟨b1, k * 3 + 2, none⟩ (.int .u8 s.size)).setCell ⟨b5, k, none⟩ (.int .i64 (p.ln k))) B (sel5 b0 b1 b2 b3 b5) n
      (fun i j => if i = 2 ∨ i = 3 then fk p k i j else fk p (k + 1) i j) A C Z := by
  have h1 := h.store (i := 0) (by omega) k (.string s)
  have h2 := h1.store (i := 1) (by omega) (k * 3) (.int .u32 k)
  have h3 := h2.store (i := 1) (by omega) (k * 3 + 1) (.int .u16 0)
  have h4 := h3.store (i := 1) (by omega) (k * 3 + 2) (.int .u8 s.size)
  have h5 := h4.store (i := 4) (by omega) k (.int .i64 (p.ln k))
  refine h5.congr (fun i hi j hj => ?_)
  match i, hi with
  | 0, _ =>
    by_cases e : j = k
    · subst e; simp [upd, fk, hs]
    · have : (j < k + 1) = (j < k) := propext ⟨fun _ => by omega, fun _ => by omega⟩
      simp [upd, fk, e, this]
  | 1, _ =>
    by_cases e : j / 3 = k
    · have e3 : j = k * 3 ∨ j = k * 3 + 1 ∨ j = k * 3 + 2 := by omega
      rcases e3 with e3 | e3 | e3
      · subst e3; simp [upd, fk, refV]
      · subst e3
        have m1 : (k * 3 + 1) % 3 = 1 := by omega
        simp [upd, fk, refV, m1]
      · subst e3
        have m2 : (k * 3 + 2) % 3 = 2 := by omega
        have v2 : (k * 3 + 2) / 3 = k := by omega
        simp [upd, fk, refV, m2, v2, hs]
    · have n0 : ¬ j = k * 3 := by omega
      have n1 : ¬ j = k * 3 + 1 := by omega
      have n2 : ¬ j = k * 3 + 2 := by omega
      have : (j / 3 < k + 1) = (j / 3 < k) := propext ⟨fun _ => by omega, fun _ => by omega⟩
      simp [upd, fk, n0, n1, n2, refV, this]
  | 2, _ => simp [upd]
  | 3, _ => simp [upd]
  | 4, _ =>
    by_cases e : j = k
    · subst e; simp [upd, fk]
    · have : (j < k + 1) = (j < k) := propext ⟨fun _ => by omega, fun _ => by omega⟩
      simp [upd, fk, e, this]

/-- A process that does not wait. -/
theorem bs_runs {w0 wr : World} {B n k : Nat} {b : Nat → Nat} {p : Procs} {A : Nat → Option Addr} {C : Nat → Nat} (h : Bs w0 wr B b n (fun i j => if i = 2 ∨ i = 3 then fk p k i j else fk p (k + 1) i j) A C (zk4 p n k)) (hw : p.wt k = false) :
    Bs w0 wr B b n (fk p (k + 1)) A C (zk4 p n (k + 1)) := by
  refine (h.congrZ (fun i hi => ?_)).congr (fun i hi j hj => ?_)
  · match i, hi with
    | 0, _ => simp [zk4, fns, hw]
    | 1, _ => simp [zk4, tgs, hw]
    | 2, _ => simp [zk4, nds, hw]
    | 3, _ => simp [zk4, ows, hw]
  · by_cases e : i = 2 ∨ i = 3
    · simp only [e, if_true]
      by_cases e2 : j = k
      · subst e2
        rcases e with e | e <;> subst e <;> simp [fk, fgv, egv, hw]
      · have : (j < k + 1) = (j < k) := propext ⟨fun _ => by omega, fun _ => by omega⟩
        rcases e with e | e <;> subst e <;> simp [fk, this]
    · simp only [e, if_false]

/-- The two stores of a process that waits. -/
theorem bs_waits {w0 wr : World} {B b0 b1 b2 b3 b5 n k : Nat} {p : Procs} {A : Nat → Option Addr} {C : Nat → Nat} {Z : Nat → List Int} (h : Bs w0 wr B (sel5 b0 b1 b2 b3 b5) n (fun i j => if i = 2 ∨ i = 3 then fk p k i j else fk p (k + 1) i j) A C Z) (hw : p.wt k = true) :
    Bs w0 ((wr.setCell ⟨b2, k, none⟩ (.int .i32 (cw p k))).setCell ⟨b3, k, none⟩ (.int .i32 ((cw p k : Int) + 1))) B (sel5 b0 b1 b2 b3 b5) n (fk p (k + 1)) A C Z := by
  have h1 := h.store (i := 2) (by omega) k (.int .i32 (cw p k))
  have h2 := h1.store (i := 3) (by omega) k (.int .i32 ((cw p k : Int) + 1))
  refine h2.congr (fun i hi j hj => ?_)
  match i, hi with
  | 0, _ => simp [upd]
  | 1, _ => simp [upd]
  | 2, _ =>
    by_cases e : j = k
    · subst e; simp [upd, fk, fgv, hw]
    · have : (j < k + 1) = (j < k) := propext ⟨fun _ => by omega, fun _ => by omega⟩
      simp [upd, fk, e, this]
  | 3, _ =>
    by_cases e : j = k
    · subst e; simp [upd, fk, egv, hw]
    · have : (j < k + 1) = (j < k) := propext ⟨fun _ => by omega, fun _ => by omega⟩
      simp [upd, fk, e, this]
  | 4, _ => simp [upd]

/-- The memory at the loop's head. -/
theorem bs_start (w : World) (n : Nat) (p : Procs) :
    Bs w ((((((w.alloc (.cells (madeCells #[Value.string ByteArray.empty] n) 9)).alloc (.cells (madeCells #[Value.int .u32 0, Value.int .u16 0, Value.int .u8 0] (n * 3)) 85)).alloc (.cells (madeCells #[Value.int .i32 0] n) 21)).alloc (.cells (madeCells #[Value.int .i32 0] n) 21)).alloc (.cells #[Value.int .i32 0] 21)).alloc (.cells (madeCells #[Value.int .i64 0] n) 3))
      w.heap.size (sel5 w.heap.size (w.heap.size + 1) (w.heap.size + 1 + 1) (w.heap.size + 1 + 1 + 1) (w.heap.size + 1 + 1 + 1 + 1 + 1)) n (fk p 0) (fun i => if i = 0 then some ⟨w.heap.size + 1 + 1 + 1 + 1, 0, none⟩ else none) (fun i => if i = 0 then 1 else 0) (zk4 p n 0) := by
  have bl := ((((((Below.refl _ w).alloc (Nat.le_refl _) (.cells (madeCells #[Value.string ByteArray.empty] n) 9)).alloc (by simp) (.cells (madeCells #[Value.int .u32 0, Value.int .u16 0, Value.int .u8 0] (n * 3)) 85)).alloc (by simp; omega) (.cells (madeCells #[Value.int .i32 0] n) 21)).alloc (by simp; omega) (.cells (madeCells #[Value.int .i32 0] n) 21)).alloc (by simp; omega) (.cells #[Value.int .i32 0] 21)).alloc (by simp; omega) (.cells (madeCells #[Value.int .i64 0] n) 3)
  refine ⟨bl, fun i hi => ?_, fun i j hi hj hij => ?_, fun i hi => ?_, ⟨fun i hi => ?_, fun i j g hi hj hij hb hb' => ?_, fun i g hi hb => ?_⟩⟩
  · match i, hi with
    | 0, _ =>
      refine RowF.congr ?_ (f := fun _ => .string ByteArray.empty) (fun j _ => by simp [fk])
      exact (((((rowF_made w _ n 9).alloc _).alloc _).alloc _).alloc _).alloc _
    | 1, _ =>
      have h := rowF_made3 (w.alloc (.cells (madeCells #[Value.string ByteArray.empty] n) 9)) (Value.int .u32 0) (Value.int .u16 0) (Value.int .u8 0) n 85
      rw [World.size_alloc] at h
      refine RowF.congr ?_ (f := fun j => if j % 3 = 0 then Value.int .u32 0 else if j % 3 = 1 then Value.int .u16 0 else Value.int .u8 0) (fun j _ => by simp [fk, refV])
      exact (((h.alloc _).alloc _).alloc _).alloc _
    | 2, _ =>
      have h := rowF_made ((w.alloc (.cells (madeCells #[Value.string ByteArray.empty] n) 9)).alloc (.cells (madeCells #[Value.int .u32 0, Value.int .u16 0, Value.int .u8 0] (n * 3)) 85)) (Value.int .i32 0) n 21
      rw [World.size_alloc, World.size_alloc] at h
      refine RowF.congr ?_ (f := fun _ => .int .i32 0) (fun j _ => by simp [fk])
      exact ((h.alloc _).alloc _).alloc _
    | 3, _ =>
      have h := rowF_made (((w.alloc (.cells (madeCells #[Value.string ByteArray.empty] n) 9)).alloc (.cells (madeCells #[Value.int .u32 0, Value.int .u16 0, Value.int .u8 0] (n * 3)) 85)).alloc (.cells (madeCells #[Value.int .i32 0] n) 21)) (Value.int .i32 0) n 21
      rw [World.size_alloc, World.size_alloc, World.size_alloc] at h
      refine RowF.congr ?_ (f := fun _ => .int .i32 0) (fun j _ => by simp [fk])
      exact (h.alloc _).alloc _
    | 4, _ =>
      have h := rowF_made (((((w.alloc (.cells (madeCells #[Value.string ByteArray.empty] n) 9)).alloc (.cells (madeCells #[Value.int .u32 0, Value.int .u16 0, Value.int .u8 0] (n * 3)) 85)).alloc (.cells (madeCells #[Value.int .i32 0] n) 21)).alloc (.cells (madeCells #[Value.int .i32 0] n) 21)).alloc (.cells #[Value.int .i32 0] 21)) (Value.int .i64 0) n 3
      rw [World.size_alloc, World.size_alloc, World.size_alloc, World.size_alloc, World.size_alloc] at h
      exact RowF.congr h (fun j _ => by simp [fk])
  · simp only [sel5]; repeat' split
    all_goals omega
  · simp only [sel5]; repeat' split
    all_goals omega
  · by_cases e : i = 0
    · subst e
      refine Own.kept (w := ((((w.alloc (.cells (madeCells #[Value.string ByteArray.empty] n) 9)).alloc (.cells (madeCells #[Value.int .u32 0, Value.int .u16 0, Value.int .u8 0] (n * 3)) 85)).alloc (.cells (madeCells #[Value.int .i32 0] n) 21)).alloc (.cells (madeCells #[Value.int .i32 0] n) 21)).alloc (.cells #[Value.int .i32 0] 21)) ?_ (World.grownBy_alloc _ _ none) (by simp)
      have h := heap_alloc_new (((w.alloc (.cells (madeCells #[Value.string ByteArray.empty] n) 9)).alloc (.cells (madeCells #[Value.int .u32 0, Value.int .u16 0, Value.int .u8 0] (n * 3)) 85)).alloc (.cells (madeCells #[Value.int .i32 0] n) 21) |>.alloc (.cells (madeCells #[Value.int .i32 0] n) 21)) (.cells #[Value.int .i32 0] 21)
      rw [World.size_alloc, World.size_alloc, World.size_alloc, World.size_alloc] at h
      exact Own.mk h (Nat.le_refl _) (by simp [maxLen]) rfl rfl
    · have ez : zk4 p n 0 i = [] := by
        match i, e, hi with
        | 1, _, _ => rfl
        | 2, _, _ => rfl
        | 3, _, _ => rfl
      simp only [e, if_false]
      rw [ez]
      exact Own.nil _ _ _
  · by_cases e : i = 0
    · by_cases e' : j = 0
      · omega
      · simp [e', blk] at hb'
    · simp [e, blk] at hb
  · by_cases e : i = 0
    · simp [e, blk] at hb
      refine ⟨by omega, fun j hj => ?_⟩
      simp only [sel5]; repeat' split
      all_goals omega
    · simp [e, blk] at hb


/-- A snapshot of the call's own, as it is read. -/
structure Snap (w : World) (sb gb : Nat) (b : Nat → Nat) (n m : Nat) (p : Procs) (dec : Nat → Int) (A : Nat → Option Addr) (C : Nat → Nat) (ad : Option Addr) (cd : Nat) : Prop where
  s0 : w.cell? ⟨sb, 0, none⟩ = some (.slice (some ⟨b 0, 0, none⟩) n n)
  s3 : w.cell? ⟨sb, 3, none⟩ = some (.slice (some ⟨b 1, 0, none⟩) n n)
  s6 : w.cell? ⟨sb, 6, none⟩ = some (.pointer (some ⟨gb, 0, none⟩))
  s7 : w.cell? ⟨sb, 7, none⟩ = some (.slice ad m cd)
  s8 : w.cell? ⟨sb, 8, none⟩ = some (.slice (some ⟨b 4, 0, none⟩) n n)
  g0 : w.cell? ⟨gb, 0, none⟩ = some (.slice (some ⟨b 2, 0, none⟩) n n)
  g1 : w.cell? ⟨gb, 1, none⟩ = some (.slice (some ⟨b 3, 0, none⟩) n n)
  g2 : w.cell? ⟨gb, 2, none⟩ = some (.slice (A 0) (cw p n + 1) (C 0))
  g3 : w.cell? ⟨gb, 3, none⟩ = some (.slice (A 1) (tgs p n n).length (C 1))
  g4 : w.cell? ⟨gb, 4, none⟩ = some (.slice (A 2) (cw p n) (C 2))
  g6 : w.cell? ⟨gb, 6, none⟩ = some (.slice none 0 0)
  nm : ∀ i, i < n → w.cell? ⟨b 0, i, none⟩ = some (.string (nameOf (p.nm i)))
  r0 : ∀ i, i < n → w.cell? ⟨b 1, i * 3, none⟩ = some (.int .u32 i)
  r1 : ∀ i, i < n → w.cell? ⟨b 1, i * 3 + 1, none⟩ = some (.int .u16 0)
  r2 : ∀ i, i < n → w.cell? ⟨b 1, i * 3 + 2, none⟩ = some (.int .u8 (nameOf (p.nm i)).size)
  fg : ∀ i, i < n → w.cell? ⟨b 2, i, none⟩ = some (.int .i32 (fgv p i))
  eg : ∀ i, i < n → w.cell? ⟨b 3, i, none⟩ = some (.int .i32 (egv p i))
  ln : ∀ i, i < n → w.cell? ⟨b 4, i, none⟩ = some (.int .i64 (p.ln i))
  fn : In1 w (A 0) (cw p n + 1) (fun j => .int .i32 ((fns p n n).getD j 0))
  tg : In1 w (A 1) (tgs p n n).length (fun j => .int .i32 ((tgs p n n).getD j 0))
  nd : In1 w (A 2) (cw p n) (fun j => .int .i32 ((nds p n).getD j 0))
  dc : In1 w ad m (fun i => .int .i32 (dec i))
  decOk : ∀ i, i < m → 0 ≤ dec i ∧ dec i < n
  capT : (tgs p n n).length ≤ C 1 ∧ C 1 ≤ maxLen

theorem cellLater {w w' : World} (hb : Below w.heap.size w w') {x : Addr} {v : Value} (h : w.cell? x = some v) : w'.cell? x = some v := (hb.cell (World.block_lt_of_cell? w x h)).trans h

theorem Snap.later {w w' : World} {sb gb : Nat} {b : Nat → Nat} {n m : Nat} {p : Procs} {dec : Nat → Int} {A : Nat → Option Addr} {C : Nat → Nat} {ad : Option Addr} {cd : Nat} (h : Snap w sb gb b n m p dec A C ad cd) (hb : Below w.heap.size w w') : Snap w' sb gb b n m p dec A C ad cd :=
  ⟨cellLater hb h.s0, cellLater hb h.s3, cellLater hb h.s6, cellLater hb h.s7, cellLater hb h.s8, cellLater hb h.g0, cellLater hb h.g1, cellLater hb h.g2, cellLater hb h.g3, cellLater hb h.g4, cellLater hb h.g6,
    fun i hi => cellLater hb (h.nm i hi), fun i hi => cellLater hb (h.r0 i hi), fun i hi => cellLater hb (h.r1 i hi), fun i hi => cellLater hb (h.r2 i hi), fun i hi => cellLater hb (h.fg i hi), fun i hi => cellLater hb (h.eg i hi), fun i hi => cellLater hb (h.ln i hi),
    h.fn.below hb, h.tg.below hb, h.nd.below hb, h.dc.below hb, h.decOk, h.capT⟩

theorem ownIn1 {w : World} {a : Option Addr} {n c : Nat} {zs : List Int} (h : Own w 21 1 a n c (ints zs)) (hn : zs.length = n) : In1 w a n (fun i => .int .i32 (zs.getD i 0)) := by
  subst hn
  rcases h.shape with ⟨_, h0, _⟩ | ⟨g, cur, rfl, hh, _⟩
  · exact .inl h0
  · refine .inr ⟨g, 0, rfl, (Array.getElem?_eq_some_iff.1 hh).1, fun i hi => ?_⟩
    rw [Nat.zero_add]
    exact h.cell (by simp [ints, hi])

def decs (n : Nat) (O : Nat → Int) (q : Nat) : List Int := (List.range q).map fun i => O i % n
theorem decs_succ (n : Nat) (O : Nat → Int) (q : Nat) : decs n O (q + 1) = decs n O q ++ [O q % n] := by simp [decs, List.range_succ]
theorem decs_length (n : Nat) (O : Nat → Int) (q : Nat) : (decs n O q).length = q := by simp [decs]

/-- Behind the build: the graph's and the snapshot's own blocks. -/
theorem snap_of {w0 W : World} {B b0 b1 b2 b3 b5 n m : Nat} {p : Procs} {A : Nat → Option Addr} {C : Nat → Nat} {O : Nat → Int} {ad : Option Addr} {cd : Nat} (h : Bs w0 W B (sel5 b0 b1 b2 b3 b5) n (fk p n) A C (zk4 p n n)) (hd : Own W 21 1 ad m cd (ints (decs n O m))) (hn : m = 0 ∨ 0 < n) (fs gs : Array Value)
    (hfs : fs = #[.slice (some ⟨b2, 0, none⟩) n n, .slice (some ⟨b3, 0, none⟩) n n, .slice (A 0) (cw p n + 1) (C 0), .slice (A 1) (tgs p n n).length (C 1), .slice (A 2) (cw p n) (C 2), .slice (A 3) (cw p n) (C 3), .slice none 0 0, .slice none 0 0, .slice none 0 0])
    (hgs : gs = #[.slice (some ⟨b0, 0, none⟩) n n, .pointer none, .slice none 0 0, .slice (some ⟨b1, 0, none⟩) n n, .int .u64 0, .slice none 0 0, .pointer (some ⟨W.heap.size, 0, none⟩), .slice ad m cd, .slice (some ⟨b5, 0, none⟩) n n]) :
    Snap ((W.alloc (.cells fs 69)).alloc (.cells gs 96)) (W.heap.size + 1) W.heap.size (sel5 b0 b1 b2 b3 b5) n m p (fun i => (decs n O m).getD i 0) A C ad cd := by
  have bl : Below W.heap.size W ((W.alloc (.cells fs 69)).alloc (.cells gs 96)) := ((Below.refl _ W).alloc (Nat.le_refl _) _).alloc (by simp) _
  have hS : ((W.alloc (.cells fs 69)).alloc (.cells gs 96)).heap[W.heap.size + 1]? = some (.cells gs 96 (0, 0)) := by
    have := heap_alloc_new (W.alloc (.cells fs 69)) (.cells gs 96)
    rwa [World.size_alloc] at this
  have hG : ((W.alloc (.cells fs 69)).alloc (.cells gs 96)).heap[W.heap.size]? = some (.cells fs 69 (0, 0)) := (Below.heap_alloc _ _ _ (by simp)).trans (heap_alloc_new W _)
  have cS : ∀ j v, gs[j]? = some v → ((W.alloc (.cells fs 69)).alloc (.cells gs 96)).cell? ⟨W.heap.size + 1, j, none⟩ = some v := fun j v hv => by simp only [World.cell?, hS]; exact hv
  have cG : ∀ j v, fs[j]? = some v → ((W.alloc (.cells fs 69)).alloc (.cells gs 96)).cell? ⟨W.heap.size, j, none⟩ = some v := fun j v hv => by simp only [World.cell?, hG]; exact hv
  have o0 : Own W 21 1 (A 0) (cw p n + 1) (C 0) (ints (fns p n n)) := by have := h.fam.own 0 (by omega); simp only [zk4, if_true] at this; rwa [fns_length] at this
  have o1 : Own W 21 1 (A 1) (tgs p n n).length (C 1) (ints (tgs p n n)) := h.fam.own 1 (by omega)
  have o2 : Own W 21 1 (A 2) (cw p n) (C 2) (ints (nds p n)) := by
    have h2 := h.fam.own 2 (by omega)
    have e : zk4 p n n 2 = nds p n := by simp [zk4]
    rw [e, nds_length] at h2
    exact h2
  subst hfs
  subst hgs
  refine ⟨cS _ _ rfl, cS _ _ rfl, cS _ _ rfl, cS _ _ rfl, cS _ _ rfl, cG _ _ rfl, cG _ _ rfl, cG _ _ rfl, cG _ _ rfl, cG _ _ rfl, cG _ _ rfl, fun i hi => ?_, fun i hi => ?_, fun i hi => ?_, fun i hi => ?_, fun i hi => ?_, fun i hi => ?_, fun i hi => ?_,
    (ownIn1 o0 (fns_length p n n)).below bl, (ownIn1 o1 rfl).below bl, (ownIn1 o2 (nds_length p n)).below bl, (ownIn1 hd (decs_length n O m)).below bl, fun i hi => ?_, ⟨o1.le, o1.capLe⟩⟩
  · have := (h.rows 0 (by omega)).cell (i := i) (by simpa [sz5] using hi)
    exact cellLater bl (by simpa [fk, sel5, hi] using this)
  · have := (h.rows 1 (by omega)).cell (i := i * 3) (by simp [sz5]; omega)
    exact cellLater bl (by simpa [fk, sel5, refV, hi] using this)
  · have m1 : (i * 3 + 1) % 3 = 1 := by omega
    have := (h.rows 1 (by omega)).cell (i := i * 3 + 1) (by simp [sz5]; omega)
    exact cellLater bl (by simpa [fk, sel5, refV, m1] using this)
  · have m2 : (i * 3 + 2) % 3 = 2 := by omega
    have v2 : (i * 3 + 2) / 3 = i := by omega
    have := (h.rows 1 (by omega)).cell (i := i * 3 + 2) (by simp [sz5]; omega)
    exact cellLater bl (by simpa [fk, sel5, refV, m2, v2, hi] using this)
  · have := (h.rows 2 (by omega)).cell (i := i) (by simpa [sz5] using hi)
    exact cellLater bl (by simpa [fk, sel5, hi] using this)
  · have := (h.rows 3 (by omega)).cell (i := i) (by simpa [sz5] using hi)
    exact cellLater bl (by simpa [fk, sel5, hi] using this)
  · have := (h.rows 4 (by omega)).cell (i := i) (by simpa [sz5] using hi)
    exact cellLater bl (by simpa [fk, sel5, hi] using this)
  · rcases hn with hn | hn
    · omega
    · have e : (decs n O m).getD i 0 = O i % n := by simp [decs, hi]
      rw [e]
      exact ⟨Int.emod_nonneg _ (by omega), Int.emod_lt_of_pos _ (by omega)⟩

theorem upd_self {α : Type} (f : Nat → α) (k : Nat) : upd f k (f k) = f := by
  funext i
  by_cases e : i = k <;> simp [upd, e]
theorem upd_upd {α : Type} (f : Nat → α) (k : Nat) (x y : α) : upd (upd f k x) k y = upd f k y := by
  funext i
  by_cases e : i = k <;> simp [upd, e]

theorem Bs.later {w0 W wr : World} {B : Nat} {b : Nat → Nat} {n : Nat} {f : Nat → Nat → Value} {A : Nat → Option Addr} {C : Nat → Nat} {Z : Nat → List Int} (h : Bs w0 W B b n f A C Z) (hB : B ≤ w0.heap.size) (hb : Below W.heap.size W wr) : Bs w0 wr B b n f A C Z := by
  refine ⟨h.bel.trans (hb.mono (h.size hB)), fun i hi => (h.rows i hi).same (hb.block _ (h.rows i hi).lt), h.dist, h.low, ⟨fun i hi => ?_, h.fam.apart, h.fam.lies⟩⟩
  rcases (h.fam.own i hi).shape with ⟨ha, hn, hc, hz⟩ | ⟨g, cur, ha, hh, h1, h2, h3, h4⟩
  · rw [ha, hn, hc, hz]; exact Own.nil _ _ _
  · have hlt := (h.fam.own i hi).lt g (by rw [ha]; rfl)
    rw [ha]
    exact Own.mk ((hb.block g hlt).trans hh) h1 h2 h3 h4

/-- One target more. -/
theorem bs_target {w0 wr : World} {B : Nat} {b : Nat → Nat} {n : Nat} {f : Nat → Nat → Value} {A : Nat → Option Addr} {C : Nat → Nat} {Z : Nat → List Int} {a1 : Option Addr} {c1 L q : Nat} {xs : List Int} {x : Int} (h : Bs w0 wr B b n f (upd A 1 a1) (upd C 1 c1) (upd Z 1 xs)) (hB : B ≤ w0.heap.size) (hl : xs.length = L + q)
    {o : Obj} {w1 : World} {g cap : Nat} (ho : Own w1 21 1 (some ⟨g, 0, none⟩) (L + q + 1) cap (ints xs ++ [.int .i32 x])) (hg : (wr.alloc o).grownBy w1 (blk a1)) (hw : a1 = some ⟨g, 0, none⟩ ∨ g = (wr.alloc o).heap.size) :
    Bs w0 w1 B b n f (upd A 1 (some ⟨g, 0, none⟩)) (upd C 1 cap) (upd Z 1 (xs ++ [x])) := by
  have e1 : upd Z 1 xs 1 = xs := upd_same _ _ _
  have e2 : upd A 1 a1 1 = a1 := upd_same _ _ _
  have := h.append hB (k := 1) (q := L + q) (by omega) (by rw [e1]; exact hl) (o := o) (w1 := w1) (g := g) (cap := cap) (x := x) (by rw [e1]; exact ho) (by rw [e2]; exact hg) (by rw [e2]; exact hw)
  rw [upd_upd, upd_upd, upd_upd, e1] at this
  exact this
end Go.Proofs.Ybulkaqbo
