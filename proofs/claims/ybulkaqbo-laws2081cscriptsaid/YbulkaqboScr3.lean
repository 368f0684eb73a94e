import Derived.Test.YbulkaqboScr2
namespace Go.Proofs.Ybulkaqbo
open Go.RowKit

theorem Own.same {w w' : World} {e : TypeId} {size : Nat} {a : Option Addr} {n c : Nat} {xs : List Value} (h : Own w e size a n c xs) (hs : ∀ g, blk a = some g → w'.heap[g]? = w.heap[g]?) : Own w' e size a n c xs := by
  rcases h.shape with ⟨rfl, rfl, rfl, rfl⟩ | ⟨g, cur, rfl, hh, h1, h2, h3, h4⟩
  · exact Own.nil _ _ _
  · exact Own.mk ((hs g rfl).trans hh) h1 h2 h3 h4

/-- A copy of a row, from block B0 on. -/
structure Cl (B0 : Nat) (w : World) (a : Option Addr) (n c : Nat) (zs : List Int) : Prop where
  own : Own w 21 1 a n c (ints zs)
  high : ∀ g, blk a = some g → B0 ≤ g
  len : zs.length = n

theorem Cl.grown {B0 : Nat} {w w' : World} {a : Option Addr} {n c : Nat} {zs : List Int} (h : Cl B0 w a n c zs) (hg : w.grownBy w' none) : Cl B0 w' a n c zs := ⟨h.own.kept hg (by simp), h.high, h.len⟩

theorem Cl.in1 {B0 : Nat} {w : World} {a : Option Addr} {n c : Nat} {zs : List Int} (h : Cl B0 w a n c zs) : In1 w a n (fun i => .int .i32 (zs.getD i 0)) := by
  have h1 := h.own
  have h2 := h.len
  subst h2
  exact Own.in1 h1

theorem In1.draws {w : World} {a : Option Addr} {n : Nat} {V : Nat → Value} (h : In1 w a n V) (q : Nat) : In1 (w.drewN q) a n V := h

/-- The head of a longer row. -/
theorem Own.in1_head {w : World} {a : Option Addr} {c : Nat} {zs ys : List Int} (h : Own w 21 1 a (zs ++ ys).length c (ints (zs ++ ys))) : In1 w a zs.length (fun i => .int .i32 (zs.getD i 0)) := by
  rcases Own.in1 h with h | ⟨b, o, ha, hb, hc⟩
  · exact .inl (by simp at h; simp [h.1])
  · refine .inr ⟨b, o, ha, hb, fun i hi => ?_⟩
    rw [hc i (by simp; omega)]
    simp [hi, List.getElem?_append_left hi]

/-- The clone of field i of a graph. -/
theorem cloneField (B : Nat) (w : World) (gb : Nat) (A : Nat → Option Addr) (C : Nat → Nat) (Z : Nat → List Int) (h : Gr B w gb A C Z) (i : Nat) (hi : i < 6) (hl : (Z i).length ≤ 1000000) (B0 : Nat) (hB0 : B0 ≤ w.heap.size) :
    Calls Yba.prog 23 #[.slice (A i) (Z i).length (C i)] w fun e w' => ∃ a' c', e = .returned (.slice a' (Z i).length c') ∧ Cl B0 w' a' (Z i).length c' (Z i) ∧ w.grownBy w' none := by
  refine (clone_any (A i) (Z i).length (C i) (Z i) w (h.own i hi) hl).mono ?_
  rintro e w' ⟨a', c', rfl, ho, hg, hlow, _⟩
  exact ⟨a', c', rfl, ⟨ho, fun g hb => Nat.le_trans hB0 (hlow g hb), rfl⟩, hg⟩

structure Clones (B0 : Nat) (w : World) (Z : Nat → List Int) (a0 : Option Addr) (c0 : Nat) (a1 : Option Addr) (c1 : Nat) (a2 : Option Addr) (c2 : Nat) (a3 : Option Addr) (c3 : Nat) (a4 : Option Addr) (c4 : Nat) (a5 : Option Addr) (c5 : Nat) : Prop where
  k0 : Cl B0 w a0 (Z 0).length c0 (Z 0)
  k1 : Cl B0 w a1 (Z 1).length c1 (Z 1)
  k2 : Cl B0 w a2 (Z 2).length c2 (Z 2)
  k3 : Cl B0 w a3 (Z 3).length c3 (Z 3)
  k4 : Cl B0 w a4 (Z 4).length c4 (Z 4)
  k5 : Cl B0 w a5 (Z 5).length c5 (Z 5)

theorem below_grown {B : Nat} {x w w' : World} (h : Below B x w) (hg : w.grownBy w' none) (hB : B ≤ w.heap.size) : Below B x w' := h.grown hg hB (by simp)

theorem below_six {w x w1 w2 w3 w4 w5 w6 : World} (h : Below w.heap.size w x) (g1 : x.grownBy w1 none) (g2 : w1.grownBy w2 none) (g3 : w2.grownBy w3 none) (g4 : w3.grownBy w4 none) (g5 : w4.grownBy w5 none) (g6 : w5.grownBy w6 none) : Below w.heap.size w w6 := by
  have b1 := below_grown h g1 h.size
  have b2 := below_grown b1 g2 b1.size
  have b3 := below_grown b2 g3 b2.size
  have b4 := below_grown b3 g4 b3.size
  have b5 := below_grown b4 g5 b4.size
  exact below_grown b5 g6 b5.size

/-- What is read behind addProcess. -/
structure Chk (w : World) (gb : Nat) (Z : Nat → List Int) (A : Nat → Option Addr) (C : Nat → Nat) (a0 : Option Addr) (c0 : Nat) (a1 : Option Addr) (c1 : Nat) (a2 : Option Addr) (c2 : Nat) (a3 : Option Addr) (c3 : Nat) (a4 : Option Addr) (c4 : Nat) (a5 : Option Addr) (c5 : Nat) : Prop where
  f0 : ∃ g, w.cell? ⟨gb, 0, none⟩ = some (.slice (some ⟨g, 0, none⟩) ((Z 0).length + 1) (C 0)) ∧ w.cell? ⟨g, (Z 0).length, none⟩ = some (.int .i32 0) ∧ (Z 0).length + 1 ≤ C 0
  f1 : ∃ g, w.cell? ⟨gb, 1, none⟩ = some (.slice (some ⟨g, 0, none⟩) ((Z 1).length + 1) (C 1)) ∧ w.cell? ⟨g, (Z 1).length, none⟩ = some (.int .i32 0) ∧ (Z 1).length + 1 ≤ C 1
  f2 : w.cell? ⟨gb, 2, none⟩ = some (.slice (A 2) (Z 2).length (C 2))
  f3 : w.cell? ⟨gb, 3, none⟩ = some (.slice (A 3) (Z 3).length (C 3))
  f4 : w.cell? ⟨gb, 4, none⟩ = some (.slice (A 4) (Z 4).length (C 4))
  f5 : w.cell? ⟨gb, 5, none⟩ = some (.slice (A 5) (Z 5).length (C 5))
  i0 : ∀ g c, w.cell? ⟨gb, 0, none⟩ = some (.slice (some ⟨g, 0, none⟩) ((Z 0).length + 1) c) → In1 w (some ⟨g, 0, none⟩) (Z 0).length (fun i => .int .i32 ((Z 0).getD i 0))
  i1 : ∀ g c, w.cell? ⟨gb, 1, none⟩ = some (.slice (some ⟨g, 0, none⟩) ((Z 1).length + 1) c) → In1 w (some ⟨g, 0, none⟩) (Z 1).length (fun i => .int .i32 ((Z 1).getD i 0))
  i2 : In1 w (A 2) (Z 2).length (fun i => .int .i32 ((Z 2).getD i 0))
  i3 : In1 w (A 3) (Z 3).length (fun i => .int .i32 ((Z 3).getD i 0))
  i4 : In1 w (A 4) (Z 4).length (fun i => .int .i32 ((Z 4).getD i 0))
  i5 : In1 w (A 5) (Z 5).length (fun i => .int .i32 ((Z 5).getD i 0))
  j0 : In1 w a0 (Z 0).length (fun i => .int .i32 ((Z 0).getD i 0))
  j1 : In1 w a1 (Z 1).length (fun i => .int .i32 ((Z 1).getD i 0))
  j2 : In1 w a2 (Z 2).length (fun i => .int .i32 ((Z 2).getD i 0))
  j3 : In1 w a3 (Z 3).length (fun i => .int .i32 ((Z 3).getD i 0))
  j4 : In1 w a4 (Z 4).length (fun i => .int .i32 ((Z 4).getD i 0))
  j5 : In1 w a5 (Z 5).length (fun i => .int .i32 ((Z 5).getD i 0))

theorem Cl.same {B0 : Nat} {w w' : World} {a : Option Addr} {n c : Nat} {zs : List Int} (h : Cl B0 w a n c zs) (hs : ∀ b, b < w.heap.size → B0 ≤ b → w'.heap[b]? = w.heap[b]?) : Cl B0 w' a n c zs :=
  ⟨h.own.same (fun g hb => hs g (h.own.lt g hb) (h.high g hb)), h.high, h.len⟩

theorem chk_of {B B0 : Nat} {w w' : World} {gb : Nat} {Z : Nat → List Int} {A A' : Nat → Option Addr} {C' : Nat → Nat} {a0 : Option Addr} {c0 : Nat} {a1 : Option Addr} {c1 : Nat} {a2 : Option Addr} {c2 : Nat} {a3 : Option Addr} {c3 : Nat} {a4 : Option Addr} {c4 : Nat} {a5 : Option Addr} {c5 : Nat}
    (hG : Gr B w' gb A' C' (upd (upd Z 0 (Z 0 ++ [0])) 1 (Z 1 ++ [0]))) (hK : Clones B0 w Z a0 c0 a1 c1 a2 c2 a3 c3 a4 c4 a5 c5)
    (hfr : ∀ b, b < w.heap.size → b ≠ gb → blk (A 0) ≠ some b → blk (A 1) ≠ some b → w'.heap[b]? = w.heap[b]?) (hgb : gb < B0) (h0 : ∀ g, blk (A 0) = some g → g < B0) (h1 : ∀ g, blk (A 1) = some g → g < B0) (_hz : B0 ≤ w.heap.size) :
    Chk w' gb Z A' C' a0 c0 a1 c1 a2 c2 a3 c3 a4 c4 a5 c5 := by
  have hs : ∀ b, b < w.heap.size → B0 ≤ b → w'.heap[b]? = w.heap[b]? := fun b hb hB => hfr b hb (by omega) (fun e => by have := h0 b e; omega) (fun e => by have := h1 b e; omega)
  have u0 : upd (upd Z 0 (Z 0 ++ [0])) 1 (Z 1 ++ [0]) 0 = Z 0 ++ [0] := by simp [upd]
  have u1 : upd (upd Z 0 (Z 0 ++ [0])) 1 (Z 1 ++ [0]) 1 = Z 1 ++ [0] := by simp [upd]
  have uo : ∀ i, i ≠ 0 → i ≠ 1 → upd (upd Z 0 (Z 0 ++ [0])) 1 (Z 1 ++ [0]) i = Z i := fun i h0 h1 => by simp [upd, h0, h1]
  have o0 : Own w' 21 1 (A' 0) (Z 0 ++ [0]).length (C' 0) (ints (Z 0 ++ [0])) := by have := hG.own 0 (by omega); rwa [u0] at this
  have o1 : Own w' 21 1 (A' 1) (Z 1 ++ [0]).length (C' 1) (ints (Z 1 ++ [0])) := by have := hG.own 1 (by omega); rwa [u1] at this
  have oo : ∀ i, i < 6 → i ≠ 0 → i ≠ 1 → In1 w' (A' i) (Z i).length (fun j => .int .i32 ((Z i).getD j 0)) := fun i hi h0 h1 => by
    have := hG.own i hi
    rw [uo i h0 h1] at this
    exact Own.in1 this
  obtain ⟨g0, hA0⟩ := hG.addr (i := 0) (by omega) (by rw [u0]; simp)
  obtain ⟨g1, hA1⟩ := hG.addr (i := 1) (by omega) (by rw [u1]; simp)
  have e0 : w'.cell? ⟨gb, 0, none⟩ = some (.slice (some ⟨g0, 0, none⟩) ((Z 0).length + 1) (C' 0)) := by have := hG.c0; rw [u0, hA0] at this; simpa using this
  have e1 : w'.cell? ⟨gb, 1, none⟩ = some (.slice (some ⟨g1, 0, none⟩) ((Z 1).length + 1) (C' 1)) := by have := hG.c1; rw [u1, hA1] at this; simpa using this
  have q0 := Own.in1_head o0
  have q1 := Own.in1_head o1
  refine ⟨⟨g0, e0, ?_, ?_⟩, ⟨g1, e1, ?_, ?_⟩, ?_, ?_, ?_, ?_, ?_, ?_, oo 2 (by omega) (by omega) (by omega), oo 3 (by omega) (by omega) (by omega), oo 4 (by omega) (by omega) (by omega), oo 5 (by omega) (by omega) (by omega),
    (hK.k0.same hs).in1, (hK.k1.same hs).in1, (hK.k2.same hs).in1, (hK.k3.same hs).in1, (hK.k4.same hs).in1, (hK.k5.same hs).in1⟩
  · have := hG.rowCell (i := 0) (by omega) hA0 (j := (Z 0).length) (by rw [u0]; simp)
    rw [u0] at this
    simpa using this
  · have := o0.le; simpa using this
  · have := hG.rowCell (i := 1) (by omega) hA1 (j := (Z 1).length) (by rw [u1]; simp)
    rw [u1] at this
    simpa using this
  · have := o1.le; simpa using this
  · have := hG.c2; rwa [uo 2 (by omega) (by omega)] at this
  · have := hG.c3; rwa [uo 3 (by omega) (by omega)] at this
  · have := hG.c4; rwa [uo 4 (by omega) (by omega)] at this
  · have := hG.c5; rwa [uo 5 (by omega) (by omega)] at this
  · intro g c hg
    rw [e0] at hg
    simp at hg
    rw [← hg.1, ← hA0]
    exact q0
  · intro g c hg
    rw [e1] at hg
    simp at hg
    rw [← hg.1, ← hA1]
    exact q1

/-- Structs of two bytes that came in. -/
def InOps (w : World) (a : Option Addr) (n : Nat) (P Q : Nat → Int) : Prop := n = 0 ∨ ∃ b o, a = some ⟨b, o, none⟩ ∧ b < w.heap.size ∧ ∀ i, i < n → w.cell? ⟨b, o + i * 2, none⟩ = some (.int .u8 (P i)) ∧ w.cell? ⟨b, o + i * 2 + 1, none⟩ = some (.int .u8 (Q i)) ∧ 0 ≤ P i ∧ P i ≤ 255 ∧ 0 ≤ Q i ∧ Q i ≤ 255

theorem InOps.below {w w' : World} {a : Option Addr} {n : Nat} {P Q : Nat → Int} (h : InOps w a n P Q) (hb : Below w.heap.size w w') : InOps w' a n P Q := by
  rcases h with h | ⟨b, o, ha, hlt, hc⟩
  · exact .inl h
  · exact .inr ⟨b, o, ha, Nat.lt_of_lt_of_le hlt hb.size, fun i hi => ⟨(hb.cell (p := ⟨b, o + i * 2, none⟩) hlt).trans (hc i hi).1, (hb.cell (p := ⟨b, o + i * 2 + 1, none⟩) hlt).trans (hc i hi).2.1, (hc i hi).2.2⟩⟩

/-- What the script keeps. -/
structure Bd (k : Nat) (Z : Nat → List Int) : Prop where
  same : (Z 0).length = (Z 1).length
  one : 1 ≤ (Z 2).length
  small : ∀ i, i < 6 → (Z i).length ≤ k + 1

theorem addGroup_at {B : Nat} {w : World} {gb : Nat} {A : Nat → Option Addr} {C : Nat → Nat} {Z : Nat → List Int} {k n : Nat} {Q : Int} (h : Gr B w gb A C Z) (hB : B ≤ w.heap.size) (h1 : 1 ≤ (Z 0).length) (hBd : Bd k Z) (hk : k ≤ n) (hn : ¬ 1024 < n) (hQ1 : 0 ≤ Q) :
    Calls Yba.prog 25 #[.pointer (some ⟨gb, 0, none⟩), .int .i32 (IntKind.i32.wrap (IntKind.i64.wrap (((Z 0).length : Int) - 1))), .int .i64 (IntKind.i64.wrap (Q.tmod 4))] w (groupR B w gb Z) := by
  have hs := hBd.small 0 (by omega)
  have ht : Q.tmod 4 = Q % 4 := Int.tmod_eq_emod_of_nonneg hQ1
  have e1 : IntKind.i64.wrap (((Z 0).length : Int) - 1) = (((Z 0).length - 1 : Nat) : Int) := by rw [IntKind.wrap_i64]; omega
  have e2 : IntKind.i32.wrap ((((Z 0).length - 1 : Nat) : Int)) = (((Z 0).length - 1 : Nat) : Int) := by rw [IntKind.wrap_i32]; omega
  have e3 : IntKind.i64.wrap (Q.tmod 4) = Q % 4 := by rw [IntKind.wrap_i64, ht]; omega
  rw [e1, e2, e3]
  exact addGroup_any B w gb A C Z h hB _ _ (by omega) (by have := hBd.same; omega) (by omega) (fun i hi => by have := hBd.small i hi; omega)

theorem bd_group {k : Nat} {B : Nat} {w : World} {gb : Nat} {Z : Nat → List Int} (h : Bd k Z) (hG : ∃ A' C' Z', Gr B w gb A' C' Z' ∧ ∀ i, i < 6 → (Z' i).length = (Z i).length + if i = 2 ∨ i = 4 ∨ i = 5 then 1 else 0) : ∃ A' C' Z', Gr B w gb A' C' Z' ∧ Bd (k + 1) Z' := by
  obtain ⟨A', C', Z', hG, hl⟩ := hG
  refine ⟨A', C', Z', hG, ?_, ?_, fun i hi => ?_⟩
  · have := hl 0 (by omega); have := hl 1 (by omega); have := h.same; simp at *; omega
  · have := hl 2 (by omega); simp at this; omega
  · have h1 := hl i hi
    have h2 := h.small i hi
    rw [h1]
    split <;> omega

theorem bd_name {k : Nat} {B : Nat} {w : World} {gb : Nat} {Z : Nat → List Int} (h : Bd k Z) (hG : ∃ A' C' Z', Gr B w gb A' C' Z' ∧ ∀ i, i < 6 → (Z' i).length = (Z i).length + if i = 3 then 1 else 0) : ∃ A' C' Z', Gr B w gb A' C' Z' ∧ Bd (k + 1) Z' := by
  obtain ⟨A', C', Z', hG, hl⟩ := hG
  refine ⟨A', C', Z', hG, ?_, ?_, fun i hi => ?_⟩
  · have := hl 0 (by omega); have := hl 1 (by omega); have := h.same; simp at *; omega
  · have := hl 2 (by omega); have := h.one; simp at *; omega
  · have h1 := hl i hi
    have h2 := h.small i hi
    rw [h1]
    split <;> omega

theorem bd_add {k : Nat} {Z : Nat → List Int} (h : Bd k Z) : Bd (k + 1) (upd (upd Z 0 (Z 0 ++ [0])) 1 (Z 1 ++ [0])) := by
  refine ⟨by simp [upd, h.same], by simp [upd, h.one], fun i hi => ?_⟩
  have := h.small i hi
  by_cases e1 : i = 1
  · subst e1; simp [upd]; omega
  · by_cases e0 : i = 0
    · subst e0; simp [upd]; omega
    · simp [upd, e0, e1]; omega

set_option maxHeartbeats 4000000 in
set_option maxRecDepth 100000 in
/-- LawS2081CScript returns true. -/
theorem cscript_walk (a : Option Addr) (n c : Nat) (P Q : Nat → Int) (w : World) (hin : InOps w a n P Q) :
    Calls Yba.prog 8 #[.slice a n c] w fun e w' => e = .returned (.bool true) ∧ Below w.heap.size w w' := by
  by_cases hbig : 1024 < n
  · clear hin
    go_enter Yba.func8, Yba.ntmps8
    go_wp2_with fail
    go_ret
    exact ⟨rfl, Below.refl _ _⟩
  have HI : Hid (InOps w a n P Q) := hin
  clear hin
  go_enter Yba.func8, Yba.ntmps8
  go_wp2_with fail
  refine (newEmpty_any w).mono ?_
  rintro e w0 ⟨rfl, rfl⟩
  have hG0 := gr_empty w
  have hb0 : Below w.heap.size w ((w.alloc (.cells #[.int .i32 0] 21)).alloc (.cells #[.slice none 0 0, .slice none 0 0, .slice (some ⟨w.heap.size, 0, none⟩) 1 1, .slice none 0 0, .slice none 0 0, .slice none 0 0, .slice none 0 0, .slice none 0 0, .slice none 0 0] 69)) := ((Below.refl _ w).alloc (Nat.le_refl _) _).alloc (by simp) _
  generalize ((w.alloc (.cells #[.int .i32 0] 21)).alloc (.cells #[.slice none 0 0, .slice none 0 0, .slice (some ⟨w.heap.size, 0, none⟩) 1 1, .slice none 0 0, .slice none 0 0, .slice none 0 0, .slice none 0 0, .slice none 0 0, .slice none 0 0] 69)) = w0 at *
  generalize emptyA w = A0 at *
  generalize emptyC = C0 at *
  generalize hgb : w.heap.size + 1 = gb at *
  have Hgb : Hid (w.heap.size + 1 = gb) := hgb
  clear hgb
  go_wp2_with fail
  go_loopw [4] (fun i wr => ∃ k : Nat, k ≤ n ∧ i = .int .i64 k ∧ Below w.heap.size w wr ∧ ∃ A C Z, Gr w.heap.size wr gb A C Z ∧ Bd k Z) (fun i _ => n - (intOf i).toNat)
  case atStart => exact ⟨0, Nat.zero_le _, rfl, hb0, _, _, _, hG0, ⟨by simp [cz0, cz1], by simp [cz2], fun i _ => by by_cases e : i = 2 <;> simp [cz_start, emptyZ, e]⟩⟩
  case round =>
    obtain ⟨k, hk, rfl, hb, A, C, Z, hG, hBd⟩ := hrel
    clear hb0 hG0
    have HG : Hid (Gr w.heap.size wr gb A C Z) := hG
    have HBd : Hid (Bd k Z) := hBd
    by_cases hlt : k < n
    · obtain ⟨b1, o1, rfl, hc1, hc2, hP1, hP2, hQ1, hQ2⟩ : ∃ b o, a = some ⟨b, o, none⟩ ∧ wr.cell? ⟨b, o + k * 2, none⟩ = some (.int .u8 (P k)) ∧ wr.cell? ⟨b, o + k * 2 + 1, none⟩ = some (.int .u8 (Q k)) ∧ 0 ≤ P k ∧ P k ≤ 255 ∧ 0 ≤ Q k ∧ Q k ≤ 255 := by
        rcases HI.out.below hb with h | ⟨b, o, ha, _, hc⟩
        · omega
        · obtain ⟨h1, h2, h3, h4, h5, h6⟩ := hc k hlt
          exact ⟨b, o, ha, h1, h2, h3, h4, h5, h6⟩
      have hl0 := hBd.small 0 (by omega)
      have hl4 := hBd.small 4 (by omega)
      clear hG hBd
      by_cases hB1 : P k % 3 = 0 ∨ (Z 0).length = 0
      · by_cases hs0 : P k % 3 = 0
        case' pos =>
          have hq0 : (P k % 3 == 0) = true := by simp [hs0]
          clear hs0 hB1
          have hg0 := HG.out.c0
          go_wp2_with fail
        case' neg =>
          have hq0 : (P k % 3 == 0) = false := by simp [hs0]
          have hq1 : (((Z 0).length : Int) == 0) = true := by rcases hB1 with h | h; exact absurd h hs0; simp [h]
          clear hs0 hB1
          go_wp2_with fail
          refine (processes_any _ _ gb A C Z HG.out).mono ?_
          rintro e w' ⟨rfl, hw⟩
          have hw2 := hw.symm
          subst hw2
          clear hw
          have hg0 := HG.out.c0
          go_wp2_with fail
        all_goals
          clear hq0 hg0
          have hs2 := HBd.out.small 2 (by omega)
          have hs1 := HBd.out.small 1 (by omega)
          have hs3 := HBd.out.small 3 (by omega)
          have hs5 := HBd.out.small 5 (by omega)
          refine (cloneField _ _ gb A C Z HG.out 0 (by omega) (by omega) wr.heap.size (Nat.le_refl _)).mono ?_
          rintro e w1 ⟨a0, c0, rfl, k0, g0⟩
          have G1 : Hid (Gr w.heap.size w1 gb A C Z) := HG.out.grown g0
          have K0 : Hid (Cl wr.heap.size w1 a0 (Z 0).length c0 (Z 0)) := k0
          have hz := g0.size
          have hcx := G1.out.c1
          clear k0
          go_wp2_with fail
          refine (cloneField _ _ gb A C Z G1.out 1 (by omega) (by omega) wr.heap.size hz).mono ?_
          rintro e w2 ⟨a1, c1, rfl, k1, g1⟩
          have G2 : Hid (Gr w.heap.size w2 gb A C Z) := G1.out.grown g1
          have K0' : Hid (Cl wr.heap.size w2 a0 (Z 0).length c0 (Z 0)) := K0.out.grown g1
          have K1 : Hid (Cl wr.heap.size w2 a1 (Z 1).length c1 (Z 1)) := k1
          have hz2 := Nat.le_trans hz g1.size
          clear k1 K0 hcx
          have hcx := G2.out.c4
          go_wp2_with fail
          refine (cloneField _ _ gb A C Z G2.out 4 (by omega) (by omega) wr.heap.size hz2).mono ?_
          rintro e w3 ⟨a4, c4, rfl, k4, g4⟩
          have G3 : Hid (Gr w.heap.size w3 gb A C Z) := G2.out.grown g4
          have Q3 : Hid (Cl wr.heap.size w3 a0 (Z 0).length c0 (Z 0) ∧ Cl wr.heap.size w3 a1 (Z 1).length c1 (Z 1) ∧ Cl wr.heap.size w3 a4 (Z 4).length c4 (Z 4)) := ⟨K0'.out.grown g4, K1.out.grown g4, k4⟩
          have hz3 := Nat.le_trans hz2 g4.size
          clear k4 K0' K1 hcx
          have hcx := G3.out.c5
          go_wp2_with fail
          refine (cloneField _ _ gb A C Z G3.out 5 (by omega) (by omega) wr.heap.size hz3).mono ?_
          rintro e w4 ⟨a5, c5, rfl, k5, g5⟩
          have G4 : Hid (Gr w.heap.size w4 gb A C Z) := G3.out.grown g5
          have Q4 : Hid (Cl wr.heap.size w4 a0 (Z 0).length c0 (Z 0) ∧ Cl wr.heap.size w4 a1 (Z 1).length c1 (Z 1) ∧ Cl wr.heap.size w4 a4 (Z 4).length c4 (Z 4) ∧ Cl wr.heap.size w4 a5 (Z 5).length c5 (Z 5)) := ⟨Q3.out.1.grown g5, Q3.out.2.1.grown g5, Q3.out.2.2.grown g5, k5⟩
          have hz4 := Nat.le_trans hz3 g5.size
          clear k5 Q3 hcx
          have hcx := G4.out.c2
          go_wp2_with fail
          refine (cloneField _ _ gb A C Z G4.out 2 (by omega) (by omega) wr.heap.size hz4).mono ?_
          rintro e w5 ⟨a2, c2, rfl, k2, g2⟩
          have G5 : Hid (Gr w.heap.size w5 gb A C Z) := G4.out.grown g2
          have Q5 : Hid (Cl wr.heap.size w5 a0 (Z 0).length c0 (Z 0) ∧ Cl wr.heap.size w5 a1 (Z 1).length c1 (Z 1) ∧ Cl wr.heap.size w5 a4 (Z 4).length c4 (Z 4) ∧ Cl wr.heap.size w5 a5 (Z 5).length c5 (Z 5) ∧ Cl wr.heap.size w5 a2 (Z 2).length c2 (Z 2)) := ⟨Q4.out.1.grown g2, Q4.out.2.1.grown g2, Q4.out.2.2.1.grown g2, Q4.out.2.2.2.grown g2, k2⟩
          have hz5 := Nat.le_trans hz4 g2.size
          clear k2 Q4 hcx
          have hcx := G5.out.c3
          go_wp2_with fail
          refine (cloneField _ _ gb A C Z G5.out 3 (by omega) (by omega) wr.heap.size hz5).mono ?_
          rintro e w6 ⟨a3, c3, rfl, k3, g3⟩
          have G6 : Hid (Gr w.heap.size w6 gb A C Z) := G5.out.grown g3
          have Q6 : Hid (Clones wr.heap.size w6 Z a0 c0 a1 c1 a2 c2 a3 c3 a4 c4 a5 c5) := ⟨Q5.out.1.grown g3, Q5.out.2.1.grown g3, Q5.out.2.2.2.2.grown g3, k3, Q5.out.2.2.1.grown g3, Q5.out.2.2.2.1.grown g3⟩
          have hz6 := Nat.le_trans hz5 g3.size
          have hb6 : Below w.heap.size w w6 := below_six hb g0 g1 g4 g5 g2 g3
          clear k3 Q5 hcx g0 g1 g2 g3 g4 g5 G1 G2 G3 G4 G5 hz hz2 hz3 hz4 hz5 hc1 hc2
          go_wp2_with fail
          refine (addProcess_any _ _ gb A C Z G6.out hb6.size (by omega) (by omega)).mono ?_
          rintro e w7 ⟨rfl, hb7, hfr, A', C', hG7⟩
          have HC : Hid (Chk w7 gb Z A' C' a0 c0 a1 c1 a2 c2 a3 c3 a4 c4 a5 c5) := chk_of hG7 Q6.out hfr HG.out.lt (HG.out.own 0 (by omega)).lt (HG.out.own 1 (by omega)).lt hz6
          have HD : Hid (Gr w.heap.size w7 gb A' C' (upd (upd Z 0 (Z 0 ++ [0])) 1 (Z 1 ++ [0])) ∧ Bd (k + 1) (upd (upd Z 0 (Z 0 ++ [0])) 1 (Z 1 ++ [0]))) := ⟨hG7, bd_add HBd.out⟩
          have hb8 := hb6.trans hb7
          obtain ⟨g0, hx0, hx0', hx0c⟩ := HC.out.f0
          obtain ⟨g1, hx1, hx1', hx1c⟩ := HC.out.f1
          have hx2 := HC.out.f2
          have hx3 := HC.out.f3
          have hx4 := HC.out.f4
          have hx5 := HC.out.f5
          have HI0 : Hid (In1 w7 (some ⟨g0, 0, none⟩) (Z 0).length (fun i => .int .i32 ((Z 0).getD i 0))) := HC.out.i0 _ _ hx0
          have HI1 : Hid (In1 w7 (some ⟨g1, 0, none⟩) (Z 1).length (fun i => .int .i32 ((Z 1).getD i 0))) := HC.out.i1 _ _ hx1
          clear hG7 hfr hb6 hb7 Q6 G6 HG hz6 hb
          go_wp2_with fail
          refine (equal_any _ _ _ _ _ (fun i => (Z 0).getD i 0) _ (by exact HI0.out) (by exact HC.out.j0) (by omega)).mono ?_
          rintro e w8 ⟨rfl, q1, rfl⟩
          go_wp2_with fail
          refine (equal_any _ _ _ _ _ (fun i => (Z 1).getD i 0) _ (by exact HI1.out.draws _) (by exact HC.out.j1.draws _) (by omega)).mono ?_
          rintro e w8 ⟨rfl, q2, rfl⟩
          go_wp2_with fail
          refine (equal_any _ _ _ _ _ (fun i => (Z 4).getD i 0) _ (by exact HC.out.i4.draws _) (by exact HC.out.j4.draws _) (by omega)).mono ?_
          rintro e w8 ⟨rfl, q3, rfl⟩
          go_wp2_with fail
          refine (equal_any _ _ _ _ _ (fun i => (Z 5).getD i 0) _ (by exact HC.out.i5.draws _) (by exact HC.out.j5.draws _) (by omega)).mono ?_
          rintro e w8 ⟨rfl, q4, rfl⟩
          go_wp2_with fail
          refine (equal_any _ _ _ _ _ (fun i => (Z 2).getD i 0) _ (by exact HC.out.i2.draws _) (by exact HC.out.j2.draws _) (by omega)).mono ?_
          rintro e w8 ⟨rfl, q5, rfl⟩
          go_wp2_with fail
          refine (equal_any _ _ _ _ _ (fun i => (Z 3).getD i 0) _ (by exact HC.out.i3.draws _) (by exact HC.out.j3.draws _) (by omega)).mono ?_
          rintro e w8 ⟨rfl, q6, rfl⟩
          clear hx0 hx1 hx2 hx3 hx4 hx5 hx0' hx1'
          go_wp2_with fail
          go_roundw
          case rel => exact ⟨k + 1, by omega, by go_num, below_draws hb8 _, _, _, _, HD.out.1.draws _, HD.out.2⟩
          case measure => simp [intOf]; omega
      · have hq0 : (P k % 3 == 0) = false := by simp; omega
        have hq1 : (((Z 0).length : Int) == 0) = false := by rw [beq_eq_false_iff_ne]; omega
        have hz1 : 1 ≤ (Z 0).length := by omega
        have hg0 := HG.out.c0
        have hg4 := HG.out.c4
        by_cases hB2 : P k % 3 = 1 ∨ (Z 4).length = 0
        · by_cases hs1 : P k % 3 = 1
          case' pos =>
            have hq2 : (P k % 3 == 1) = true := by simp [hs1]
            clear hs1 hB2
            go_wp2_with fail
            refine (processes_any _ _ gb A C Z HG.out).mono ?_
            rintro e w' ⟨rfl, hw⟩
            have hw2 := hw.symm
            subst hw2
            clear hw
            go_wp2_with fail
          case' neg =>
            have hq2 : (P k % 3 == 1) = false := by simp [hs1]
            have hq3 : (((Z 4).length : Int) == 0) = true := by rcases hB2 with h | h; exact absurd h hs1; simp [h]
            clear hs1 hB2
            go_wp2_with fail
            refine (processes_any _ _ gb A C Z HG.out).mono ?_
            rintro e w' ⟨rfl, hw⟩
            have hw2 := hw.symm
            subst hw2
            clear hw
            go_wp2_with fail
          all_goals
            clear hg4
            have HG' : Hid (Gr w.heap.size wr.drew gb A C Z) := HG.out.draws 1
            go_region_with (first | (go_at_call 21; refine (processes_any _ _ gb A C Z HG'.out).mono ?_; rintro e w' ⟨rfl, rfl⟩) | (go_at_call 25; refine (addGroup_at HG'.out hb.size hz1 HBd.out hk hbig hQ1).mono ?_; rintro e w' ⟨rfl, hb', hG'⟩))
            all_goals
              go_wp2_with fail
              go_roundw
              case rel => exact ⟨k + 1, by omega, by go_num, (below_draws hb 1).trans hb', bd_group HBd.out hG'⟩
              case measure => simp [intOf]; omega
        · have hq2 : (P k % 3 == 1) = false := by simp; omega
          have hq3 : (((Z 4).length : Int) == 0) = false := by rw [beq_eq_false_iff_ne]; omega
          clear hB1 hB2
          go_wp2_with fail
          refine (processes_any _ _ gb A C Z HG.out).mono ?_
          rintro e w' ⟨rfl, hw⟩
          have hw2 := hw.symm
          subst hw2
          clear hw
          go_wp2_with fail
          clear hg4
          have HG' : Hid (Gr w.heap.size wr.drew gb A C Z) := HG.out.draws 1
          have hnn : ¬ Z 0 = [] := fun e => by rw [e] at hz1; simp at hz1
          go_region_with (first | (go_at_call 21; refine (processes_any _ _ gb A C Z HG'.out).mono ?_; rintro e w' ⟨rfl, rfl⟩) | (go_at_call 26; refine (addName_any _ _ gb A C Z HG'.out hb.size _ HBd.out.one (by have := HBd.out.small 2 (by omega); omega) (by have := HBd.out.small 3 (by omega); omega)).mono ?_; rintro e w' ⟨rfl, hb', hG'⟩))
          all_goals
            go_wp2_with fail
            go_roundw
            case rel => exact ⟨k + 1, by omega, by go_num, (below_draws hb 1).trans hb', bd_name HBd.out hG'⟩
            case measure => simp [intOf]; omega
    · clear hG hBd
      go_wp2_with fail
      go_ret
      exact ⟨rfl, hb⟩
end Go.Proofs.Ybulkaqbo
