import Derived.Test.YbulkaqkeK1
namespace Go.Proofs.Ybulkaqke
open Go.RowKit Go.WideMaps Go.Maps

/-- An element that is empty but for its name and its members. -/
def leafV (s : ByteArray) (v : Value) : Array Value := #[.string s, .int .i64 0, .int .i64 0, .slice none 0 0, .int .u64 0, .int .u64 0, .int .i64 0, .string { data := #[] }, v, .bool false, .int .u64 0, .int .i64 0, .int .i64 0]

/-- A slice's three numbers. -/
structure Mem where
  a : Option Addr
  n : Nat
  c : Nat
def Mem.val (m : Mem) : Value := .slice m.a m.n m.c

theorem hid {p : Prop} (h : p) : Hid p := h

theorem map_apart {w : World} {mb n g o : Nat} {D : DataW Unit} {v : Value} (h : MapIs w mb n D) (hc : w.cell? ⟨g, o, none⟩ = some v) : g ≠ mb := by
  intro e
  obtain ⟨es, clock, hb, _⟩ := h
  rw [← e] at hb
  simp [World.cell?, hb] at hc

theorem cell_kept {w w' : World} {mb g o : Nat} {v : Value} (hg : w.grownBy w' (some mb)) (hc : w.cell? ⟨g, o, none⟩ = some v) (hne : g ≠ mb) : w'.cell? ⟨g, o, none⟩ = some v := by
  have hb := hg.block g (World.block_lt_of_cell? w _ hc) (fun e => hne (Option.some.inj e))
  simp only [World.cell?, hb] at hc ⊢
  exact hc

/-- The row of elements: block g holds L elements, told by their names and members. -/
def ElRow (w : World) (g L : Nat) (nm : Nat → ByteArray) (mem : Nat → Mem) : Prop := ∀ j, j < L → ∀ t v, (leafV (nm j) (mem j).val)[t]? = some v → w.cell? ⟨g, j * 13 + t, none⟩ = some v

theorem ElRow.kept {w w' : World} {mb n g L : Nat} {D : DataW Unit} {nm : Nat → ByteArray} {mem : Nat → Mem} (h : ElRow w g L nm mem) (hm : MapIs w mb n D) (hg : w.grownBy w' (some mb)) : ElRow w' g L nm mem :=
  fun j hj t v hv => cell_kept hg (h j hj t v hv) (map_apart hm (h j hj t v hv))

theorem grownBy_none {x y : World} (h : x.grownBy y none) (r : Option Nat) : x.grownBy y r := ⟨h.os, h.tape, h.output, h.size, fun j hj _ => h.block j hj (by simp)⟩
theorem grownBy_comp {x y z : World} {r : Option Nat} (h : x.grownBy y r) (k : y.grownBy z r) : x.grownBy z r :=
  ⟨k.os.trans h.os, k.tape.trans h.tape, k.output.trans h.output, Nat.le_trans h.size k.size, fun j hj hne => (k.block j (Nat.lt_of_lt_of_le hj h.size) hne).trans (h.block j hj hne)⟩

/-- What leaveOut does with each member. -/
def Steps (eb mb : Nat) (N : Nat → Nat) (E : Nat → DataW Unit) (c : ByteArray) (L : Nat) (nm : Nat → ByteArray) (mem : Nat → Mem) (w : World) : Prop := ∀ j, j < L → ∀ w', w.grownBy w' (some mb) → MapIs w' mb (N j) (E j) → Calls Yba.prog 5 #[.pointer (some ⟨eb, 0, none⟩), .agg (leafV (nm j) (mem j).val), .string c] w' fun e w'' => e = .returned (.tuple #[]) ∧ MapIs w'' mb (N (j + 1)) (E (j + 1)) ∧ w'.grownBy w'' (some mb)

set_option maxHeartbeats 2000000 in
set_option maxRecDepth 100000 in
/-- leaveOut of an element with a row of members, by what it does with each. -/
theorem leave_row (eb mb : Nat) (N : Nat → Nat) (E : Nat → DataW Unit) (s c : ByteArray) (g cg L : Nat) (nm : Nat → ByteArray) (mem : Nat → Mem) (w : World) (hown : MapIs w mb (N 0) (E 0)) (hL : L ≤ 256) (hrow : ElRow w g L nm mem)
    (hstep : Steps eb mb N E c L nm mem w) :
    Calls Yba.prog 5 #[.pointer (some ⟨eb, 0, none⟩), .agg (leafV s (.slice (some ⟨g, 0, none⟩) L cg)), .string c] w fun e w' => e = .returned (.tuple #[]) ∧ MapIs w' mb (N L) (E L) ∧ w.grownBy w' (some mb) := by
  have hq : ∀ (w : World) (a : Option Addr) (n c n' c' : Nat), (binOp .eql 35 (.slice a n c) (.slice none n' c')).run Yba.prog w = .ok (.bool a.isNone) w := fun w a n c n' c' => Lib.run_eql_slice_nil w 35 _ a n c n' c' Yba.underlying35
  have HO : Hid (MapIs w mb (N 0) (E 0)) := hown
  have HR : Hid (ElRow w g L nm mem) := hrow
  have HS : Hid (Steps eb mb N E c L nm mem w) := hstep
  clear hown hrow hstep
  unfold leafV
  go_enter Yba.func5, Yba.ntmps5
  go_upto_region 1 with fail
  have gA := World.grownBy_alloc w (.cells #[.string s, .int .i64 0, .int .i64 0, .slice none 0 0, .int .u64 0, .int .u64 0, .int .i64 0, .string { data := #[] }, .slice (some ⟨g, 0, none⟩) L cg, .bool false, .int .u64 0, .int .i64 0, .int .i64 0] 41) none
  have hA := heap_alloc_new w (.cells #[.string s, .int .i64 0, .int .i64 0, .slice none 0 0, .int .u64 0, .int .u64 0, .int .i64 0, .string { data := #[] }, .slice (some ⟨g, 0, none⟩) L cg, .bool false, .int .u64 0, .int .i64 0, .int .i64 0] 41)
  generalize w.alloc (.cells #[.string s, .int .i64 0, .int .i64 0, .slice none 0 0, .int .u64 0, .int .u64 0, .int .i64 0, .string { data := #[] }, .slice (some ⟨g, 0, none⟩) L cg, .bool false, .int .u64 0, .int .i64 0, .int .i64 0] 41) = W1 at *
  have k8 : W1.cell? ⟨w.heap.size, 8, none⟩ = some (.slice (some ⟨g, 0, none⟩) L cg) := by simp only [World.cell?, hA]; rfl
  have HG1 : Hid (w.grownBy W1 none) := gA
  clear gA hA
  go_wp2_with fail
  clear k8
  go_loopw [21] (fun x wr => ∃ j : Nat, j ≤ L ∧ x = .int .i64 j ∧ MapIs wr mb (N j) (E j) ∧ w.grownBy wr (some mb)) (fun x _ => L - (intOf x).toNat)
  case atStart => exact ⟨0, Nat.zero_le _, rfl, World.ownsMap.kept HO.out HG1.out (by simp), grownBy_none HG1.out _⟩
  case round =>
    obtain ⟨j, hj, rfl, hm, hgr⟩ := hrel
    have HM : Hid (MapIs wr mb (N j) (E j)) := hm
    have HGr : Hid (w.grownBy wr (some mb)) := hgr
    have hrow' := HR.out.kept HO.out hgr
    clear hm hgr
    by_cases hlt : j < L
    · have r := hrow' j hlt
      have HC := HS.out j hlt
      generalize hms : mem j = ms at HC r
      obtain ⟨ma, mn, mc⟩ := ms
      generalize hns : nm j = ns at HC r
      have r0 : wr.cell? ⟨g, j * 13, none⟩ = some (.string ns) := r 0 _ rfl
      have r1 : wr.cell? ⟨g, j * 13 + 1, none⟩ = some (.int .i64 0) := r 1 _ rfl
      have r2 : wr.cell? ⟨g, j * 13 + 2, none⟩ = some (.int .i64 0) := r 2 _ rfl
      have r3 : wr.cell? ⟨g, j * 13 + 3, none⟩ = some (.slice none 0 0) := r 3 _ rfl
      have r4 : wr.cell? ⟨g, j * 13 + 4, none⟩ = some (.int .u64 0) := r 4 _ rfl
      have r5 : wr.cell? ⟨g, j * 13 + 5, none⟩ = some (.int .u64 0) := r 5 _ rfl
      have r6 : wr.cell? ⟨g, j * 13 + 6, none⟩ = some (.int .i64 0) := r 6 _ rfl
      have r7 : wr.cell? ⟨g, j * 13 + 7, none⟩ = some (.string { data := #[] }) := r 7 _ rfl
      have r8 : wr.cell? ⟨g, j * 13 + 8, none⟩ = some (.slice ma mn mc) := r 8 _ rfl
      have r9 : wr.cell? ⟨g, j * 13 + 9, none⟩ = some (.bool false) := r 9 _ rfl
      have r10 : wr.cell? ⟨g, j * 13 + 10, none⟩ = some (.int .u64 0) := r 10 _ rfl
      have r11 : wr.cell? ⟨g, j * 13 + 11, none⟩ = some (.int .i64 0) := r 11 _ rfl
      have r12 : wr.cell? ⟨g, j * 13 + 12, none⟩ = some (.int .i64 0) := r 12 _ rfl
      have HC' := hid HC
      clear r hrow' HC hms hns
      go_wp2_with fail
      have gA := World.grownBy_alloc wr (.cells #[.string ns, .int .i64 0, .int .i64 0, .slice none 0 0, .int .u64 0, .int .u64 0, .int .i64 0, .string { data := #[] }, .slice ma mn mc, .bool false, .int .u64 0, .int .i64 0, .int .i64 0] 41) none
      refine (HC'.out _ (grownBy_comp HGr.out (grownBy_none gA _)) (World.ownsMap.kept HM.out gA (by simp))).mono ?_
      rintro e w2 ⟨rfl, hm2, hg2⟩
      have HM2 := hid hm2
      have HG2 := hid (grownBy_comp HGr.out (grownBy_comp (grownBy_none gA _) hg2))
      clear hm2 hg2 gA r0 r1 r2 r3 r4 r5 r6 r7 r8 r9 r10 r11 r12
      go_wp2_with fail
      refine ⟨⟨j + 1, by omega, by simp, HM2.out, HG2.out⟩, ?_⟩
      simp [intOf]
      omega
    · obtain rfl : j = L := by omega
      go_wp2_with fail
      refine ⟨rfl, .tuple #[], ?_, rfl, HM.out, HGr.out⟩
      simp [results, Yba.results5, go_sem]

/-- What leaving out the first j kids makes of the record. -/
def kidsD (c : ByteArray) (kid : Nat → ByteArray) : DataW Unit → Nat → DataW Unit
  | D, 0 => D
  | D, j + 1 => (kidsD c kid D j).put (key (kid j)) (val c)

/-- leaveOut of a group of single elements. -/
theorem leave_group (eb mb n : Nat) (D : DataW Unit) (s c : ByteArray) (g cg L : Nat) (kid : Nat → ByteArray) (w : World) (he : w.cell? ⟨eb, 3, none⟩ = some (.map (some mb))) (hown : MapIs w mb n D) (hn : n + L < maxLen) (hL : L ≤ 256) (hc : c.size ≤ maxLen) (hk : ∀ j, j < L → (kid j).size ≤ maxLen) (hrow : ElRow w g L kid (fun _ => ⟨none, 0, 0⟩)) :
    Calls Yba.prog 5 #[.pointer (some ⟨eb, 0, none⟩), .agg (leafV s (.slice (some ⟨g, 0, none⟩) L cg)), .string c] w fun e w' => e = .returned (.tuple #[]) ∧ MapIs w' mb (n + L) (kidsD c kid D L) ∧ w.grownBy w' (some mb) :=
  leave_row eb mb (fun j => n + j) (kidsD c kid D) s c g cg L kid (fun _ => ⟨none, 0, 0⟩) w hown hL hrow
    (fun j hj w' hg hm => leave_leaf eb mb (n + j) (kidsD c kid D j) (kid j) c _ _ _ _ _ _ _ _ _ _ _ w' (cell_kept hg he (map_apart hown he)) hm (by omega) (hk j hj) hc)

/-- One member of top: a single element, or a group of single elements. -/
structure Grp where
  name : ByteArray
  leaf : Bool
  kids : Nat
  kid : Nat → ByteArray

/-- What leaving out the first j members of top makes of the record, and the bound. -/
def grpsD (c : ByteArray) (G : Nat → Grp) : DataW Unit → Nat → DataW Unit
  | D, 0 => D
  | D, j + 1 => if (G j).leaf then (grpsD c G D j).put (key (G j).name) (val c) else kidsD c (G j).kid (grpsD c G D j) (G j).kids
def grpsN (G : Nat → Grp) : Nat → Nat → Nat
  | n, 0 => n
  | n, j + 1 => if (G j).leaf then grpsN G n j + 1 else grpsN G n j + (G j).kids

/-- A member's slice of members is as the group says. -/
def MemOk (w : World) (q : Grp) (m : Mem) : Prop := if q.leaf then m = ⟨none, 0, 0⟩ else ∃ g cg, m = ⟨some ⟨g, 0, none⟩, q.kids, cg⟩ ∧ ElRow w g q.kids q.kid (fun _ => ⟨none, 0, 0⟩)

theorem leave_top (eb mb n : Nat) (D : DataW Unit) (s c : ByteArray) (g cg L : Nat) (G : Nat → Grp) (mem : Nat → Mem) (w : World) (he : w.cell? ⟨eb, 3, none⟩ = some (.map (some mb))) (hown : MapIs w mb n D) (hn : grpsN G n L < maxLen) (hL : L ≤ 256) (hK : ∀ j, j < L → (G j).kids ≤ 256) (hc : c.size ≤ maxLen) (hk : ∀ j, j < L → (G j).name.size ≤ maxLen ∧ ∀ i, i < (G j).kids → ((G j).kid i).size ≤ maxLen)
    (hrow : ElRow w g L (fun j => (G j).name) mem) (hmem : ∀ j, j < L → MemOk w (G j) (mem j)) :
    Calls Yba.prog 5 #[.pointer (some ⟨eb, 0, none⟩), .agg (leafV s (.slice (some ⟨g, 0, none⟩) L cg)), .string c] w fun e w' => e = .returned (.tuple #[]) ∧ MapIs w' mb (grpsN G n L) (grpsD c G D L) ∧ w.grownBy w' (some mb) := by
  have hmono : ∀ j d, grpsN G n j ≤ grpsN G n (j + d) := by
    intro j d
    induction d with
    | zero => exact Nat.le_refl _
    | succ d ih =>
      refine Nat.le_trans ih ?_
      rw [show j + (d + 1) = (j + d) + 1 from rfl, grpsN]
      split <;> omega
  refine leave_row eb mb (grpsN G n) (grpsD c G D) s c g cg L (fun j => (G j).name) mem w hown hL hrow ?_
  intro j hj w' hg hm
  have he' := cell_kept hg he (map_apart hown he)
  have hle : grpsN G n (j + 1) < maxLen := by
    have := hmono (j + 1) (L - (j + 1))
    rw [show j + 1 + (L - (j + 1)) = L by omega] at this
    omega
  have hmo := hmem j hj
  unfold MemOk at hmo
  simp only [grpsN, grpsD] at hle ⊢
  split at hmo
  · rename_i hl
    rw [if_pos hl] at hle ⊢
    rw [if_pos hl, hmo]
    exact leave_leaf eb mb _ _ (G j).name c _ _ _ _ _ _ _ _ _ _ _ w' he' hm (by omega) (hk j hj).1 hc
  · rename_i hl
    obtain ⟨g', cg', h1, h2⟩ := hmo
    rw [if_neg hl] at hle ⊢
    rw [if_neg hl, h1]
    exact leave_group eb mb _ _ (G j).name c g' cg' (G j).kids (G j).kid w' he' hm hle (hK j hj) hc (hk j hj).2 (h2.kept hown hg)
end Go.Proofs.Ybulkaqke
