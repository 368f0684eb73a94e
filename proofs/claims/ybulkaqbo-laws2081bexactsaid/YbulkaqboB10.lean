import Derived.Test.YbulkaqboB9
namespace Go.Proofs.Ybulkaqbo
open Go.RowKit

/-- What the call of the value y (in slot 14) on arg (in slot 30) does. -/
def Answers (y arg : Value) (w : World) (R : Value → World → Prop) : Prop :=
  ∀ (o : Oper) (a : Act) (K : Act → World → Prop) (Q : Exit → Act → World → Prop), o.op = .call { callee := .value (.tmp 14), args := #[.tmp 30], argTypes := #[50] } → a.eval (.tmp 14) = y → a.eval (.tmp 30) = arg →
    (∀ v w', R v w' → K (a.put o.dst v) w') → o.wpIn Fence.wide 0 Yba.prog a w K Q

theorem eval_put_ne (a : Act) (d t : Nat) (v : Value) (h : t ≠ d) : (a.put (some d) v).eval (.tmp t) = a.eval (.tmp t) := Act.eval_put (fun x hx e => by cases hx; cases e; exact h rfl)
theorem eval_put_eq (a : Act) (d : Nat) (v : Value) (h : d < a.tmps.size) : (a.put (some d) v).eval (.tmp d) = v := by
  simp [Act.eval, Act.put, Array.getD_eq_getD_getElem?, h]

section
variable (p : Procs) (n sb k d : Nat) (b : Nat → Nat) (y : Value) (s : ByteArray) (J : Nat → Bool → World → Prop)

/-- What the operation j of 'yield(Declaration{..})' leaves in its slot. -/
def Good (j : Nat) (done : Bool) (v : Value) (w : World) : Prop :=
  match j with
  | 0 => v = y
  | 1 => v = .pointer (some ⟨sb, 0, none⟩)
  | 2 => v = .pointer (some ⟨sb, 0, none⟩)
  | 3 => v = .pointer (some ⟨sb, 8, none⟩)
  | 4 => v = .slice (some ⟨b 4, 0, none⟩) n n
  | 5 => v = .int .i32 d
  | 6 => v = .pointer (some ⟨b 4, d, none⟩)
  | 7 => v = .int .i64 (p.ln d)
  | 8 => v = .pointer (some ⟨sb, 0, none⟩)
  | 9 => v = .pointer (some ⟨sb, 0, none⟩)
  | 10 => v = .pointer (some ⟨sb, 0, none⟩)
  | 11 => v = .int .i32 d
  | 12 => v = .string s
  | 13 => v = .pointer (some ⟨sb, 0, none⟩)
  | 14 => v = .int .i32 d
  | 15 => (∃ x q c, v = .agg #[.slice x q c]) ∧ (done = false → CondOk w n p d v)
  | 16 => ∃ x q c, v = .agg #[.int .i64 (p.ln d), .string s, .slice x q c] ∧ (done = false → CondOk w n p d (.agg #[.slice x q c]))
  | 17 => ∃ c, v = .bool c ∧ J (k + 1) c w
  | 18 => ∃ c, v = .bool (!c) ∧ J (k + 1) c w
  | _ => True

variable (E : Nat → Value)

structure Rg (l : Array Bool) (a : Act) (w : World) : Prop where
  ls : l.size = 19
  ts : a.tmps.size = 34
  df : a.defers = []
  keep : ∀ t : Nat, t < 14 → a.eval (.tmp t) = E t
  good : ∀ j, j < 19 → l.getD j false = true → Good p n sb k d b y s J j (l.getD 17 false) (a.eval (.tmp (14 + j))) w
  st : (l.getD 17 false = false ∧ J k true w) ∨ (l.getD 17 false = true ∧ ∃ c, J (k + 1) c w)
  c18 : l.getD 18 false = true → l.getD 17 false = true

variable {p n sb k d b y s J E}

theorem getD_set (l : Array Bool) (i j : Nat) (h : i ≠ j) (x : Bool) : (l.setIfInBounds i true).getD j x = l.getD j x := by
  simp [Array.getD_eq_getD_getElem?, Array.getElem?_setIfInBounds_ne h]

theorem Good.grow {j : Nat} {done : Bool} {v : Value} {w w' : World} (hJ : ∀ k c w w', J k c w → w.grownBy w' none → J k c w') (h : Good p n sb k d b y s J j done v w) (hg : w.grownBy w' none) : Good p n sb k d b y s J j done v w' := by
  match j with
  | 0 | 1 | 2 | 3 | 4 | 5 | 6 | 7 | 8 | 9 | 10 | 11 | 12 | 13 | 14 => exact h
  | 15 => exact ⟨h.1, fun hd => (h.2 hd).below (below_of_grown hg)⟩
  | 16 => obtain ⟨x, q, c, e, hc⟩ := h; exact ⟨x, q, c, e, fun hd => (hc hd).below (below_of_grown hg)⟩
  | 17 => obtain ⟨c, e, hc⟩ := h; exact ⟨c, e, hJ _ _ _ _ hc hg⟩
  | 18 => obtain ⟨c, e, hc⟩ := h; exact ⟨c, e, hJ _ _ _ _ hc hg⟩
  | _ + 19 => trivial

/-- An operation that is neither the call of yield nor what stands behind it. -/
theorem Rg.step {l : Array Bool} {a : Act} {w w' : World} {i : Nat} {v : Value} (hJ : ∀ k c w w', J k c w → w.grownBy w' none → J k c w') (h : Rg p n sb k d b y s J E l a w) (hi : i < 17) (hg : w.grownBy w' none) (hv : Good p n sb k d b y s J i (l.getD 17 false) v w') :
    Rg p n sb k d b y s J E (l.setIfInBounds i true) (a.put (some (14 + i)) v) w' := by
  have hne : ∀ t : Nat, t ≠ 14 + i → (a.put (some (14 + i)) v).eval (.tmp t) = a.eval (.tmp t) := fun t ht => eval_put_ne a _ t v ht
  have h17 : (l.setIfInBounds i true).getD 17 false = l.getD 17 false := getD_set l i 17 (by omega) _
  have h18 : (l.setIfInBounds i true).getD 18 false = l.getD 18 false := getD_set l i 18 (by omega) _
  refine ⟨by simp [h.ls], by simp [Act.put, h.ts], by simp [Act.put, h.df], fun t ht => by rw [hne _ (by omega)]; exact h.keep t ht, ?_, ?_, ?_⟩
  · intro j hj hl
    rw [h17]
    by_cases e : j = i
    · subst e
      rw [eval_put_eq a _ v (by rw [h.ts]; omega)]
      exact hv
    · rw [getD_set l i j (fun x => e x.symm)] at hl
      rw [hne _ (by omega)]
      exact (h.good j hj hl).grow hJ hg
  · rw [h17]
    rcases h.st with ⟨h1, h2⟩ | ⟨h1, c, h2⟩
    · exact .inl ⟨h1, hJ _ _ _ _ h2 hg⟩
    · exact .inr ⟨h1, c, hJ _ _ _ _ h2 hg⟩
  · rw [h17, h18]; exact h.c18

theorem Rg.answered {l : Array Bool} {a : Act} {w w' : World} {c : Bool} (h : Rg p n sb k d b y s J E l a w) (h0 : l.getD 17 true = false) (hv : J (k + 1) c w') :
    Rg p n sb k d b y s J E (l.setIfInBounds 17 true) (a.put (some 31) (.bool c)) w' := by
  have hne : ∀ t : Nat, t ≠ 31 → (a.put (some 31) (.bool c)).eval (.tmp t) = a.eval (.tmp t) := fun t ht => eval_put_ne a _ t _ ht
  have hl17 : l.getD 17 false = false := by
    have : 17 < l.size := by rw [h.ls]; omega
    rw [Array.getD_eq_getD_getElem?, Array.getElem?_eq_getElem this] at h0 ⊢
    simpa using h0
  have h17 : (l.setIfInBounds 17 true).getD 17 false = true := by
    have : 17 < l.size := by rw [h.ls]; omega
    simp [Array.getD_eq_getD_getElem?, this]
  refine ⟨by simp [h.ls], by simp [Act.put, h.ts], by simp [Act.put, h.df], fun t ht => by rw [hne _ (by omega)]; exact h.keep t ht, ?_, ?_, ?_⟩
  · intro j hj hl
    rw [h17]
    by_cases e : j = 17
    · subst e
      rw [eval_put_eq a _ _ (by rw [h.ts]; omega)]
      exact ⟨c, rfl, hv⟩
    · rw [getD_set l 17 j (fun x => e x.symm)] at hl
      rw [hne _ (by omega)]
      have hg := h.good j hj hl
      match j, hj, e, hl, hg with
      | 0, _, _, _, hg | 1, _, _, _, hg | 2, _, _, _, hg | 3, _, _, _, hg | 4, _, _, _, hg | 5, _, _, _, hg | 6, _, _, _, hg | 7, _, _, _, hg | 8, _, _, _, hg | 9, _, _, _, hg | 10, _, _, _, hg | 11, _, _, _, hg | 12, _, _, _, hg | 13, _, _, _, hg | 14, _, _, _, hg => exact hg
      | 15, _, _, _, hg => exact ⟨hg.1, fun hd => by cases hd⟩
      | 16, _, _, _, hg => obtain ⟨x, q, c, e, _⟩ := hg; exact ⟨x, q, c, e, fun hd => by cases hd⟩
      | 17, _, e, _, _ => exact absurd rfl e
      | 18, _, _, hl, _ => rw [h.c18 hl] at hl17; cases hl17
      | _ + 19, hj, _, _, _ => omega
  · exact .inr ⟨h17, c, hv⟩
  · intro _; exact h17

theorem Rg.last {l : Array Bool} {a : Act} {w : World} {c : Bool} (h : Rg p n sb k d b y s J E l a w) (h1 : l.getD 17 false = true) (hv : J (k + 1) c w) :
    Rg p n sb k d b y s J E (l.setIfInBounds 18 true) (a.put (some 32) (.bool (!c))) w := by
  have hne : ∀ t : Nat, t ≠ 32 → (a.put (some 32) (.bool (!c))).eval (.tmp t) = a.eval (.tmp t) := fun t ht => eval_put_ne a _ t _ ht
  have h17 : (l.setIfInBounds 18 true).getD 17 false = l.getD 17 false := getD_set l 18 17 (by omega) _
  refine ⟨by simp [h.ls], by simp [Act.put, h.ts], by simp [Act.put, h.df], fun t ht => by rw [hne _ (by omega)]; exact h.keep t ht, ?_, ?_, ?_⟩
  · intro j hj hl
    rw [h17]
    by_cases e : j = 18
    · subst e
      rw [eval_put_eq a _ _ (by rw [h.ts]; omega)]
      exact ⟨c, rfl, hv⟩
    · rw [getD_set l 18 j (fun x => e x.symm)] at hl
      rw [hne _ (by omega)]
      exact h.good j hj hl
  · rw [h17]; exact h.st
  · intro _; rw [h17]; exact h1
end

theorem wpOpIn_val {ops : Array Oper} {Q : Exit → Act → World → Prop} {i : Nat} {K : Act → World → Prop} {a : Act} {w w' : World} {o : Oper} {v : Value} (ho : ops[i]? = some o) (hgd : o.guard = none)
    (hr : (execOp a.eval o).run Yba.prog w = .ok (.value v) w') (hK : K (a.put o.dst v) w') : wpOpIn Fence.wide 0 Yba.prog ops Q i K a w := by
  have hw : Region.wanted o (yielded ops a.tmps) = true := by simp [Region.wanted, hgd]
  unfold wpOpIn
  simp only [ho, hw, if_true]
  refine ⟨fun _ _ => trivial, ?_⟩
  show o.uponIn Fence.wide 0 Yba.prog a K Q ((o.semAt none a.eval).run Yba.prog w)
  rw [Oper.semAt_none, hr]
  exact hK

theorem wpOpIn_call {ops : Array Oper} {Q : Exit → Act → World → Prop} {i : Nat} {K : Act → World → Prop} {a : Act} {w : World} {o : Oper} {f : FuncId} {args : Array Value} {R : Ending → World → Prop} (ho : ops[i]? = some o) (hgd : o.guard = none)
    (hr : (execOp a.eval o).run Yba.prog w = .ok (.enter f args) w) (hc : Calls Yba.prog f args w R) (hK : ∀ e w', R e w' → ∃ v, e = .returned v ∧ K (a.put o.dst v) w') : wpOpIn Fence.wide 0 Yba.prog ops Q i K a w := by
  have hw : Region.wanted o (yielded ops a.tmps) = true := by simp [Region.wanted, hgd]
  unfold wpOpIn
  simp only [ho, hw, if_true]
  refine ⟨fun _ _ => trivial, ?_⟩
  show o.uponIn Fence.wide 0 Yba.prog a K Q ((o.semAt none a.eval).run Yba.prog w)
  rw [Oper.semAt_none, hr, Oper.uponIn_enter]
  refine ⟨fun h => absurd h (by simp [Fence.wide]), (callsIn_wide.2 hc).mono fun e w' he => ?_⟩
  obtain ⟨v, rfl, hk⟩ := hK e w' he
  exact hk

theorem wpOpIn_of {ops : Array Oper} {Q : Exit → Act → World → Prop} {i : Nat} {K : Act → World → Prop} {a : Act} {w : World} {o : Oper} (ho : ops[i]? = some o) (hgd : o.guard = none)
    (h : o.wpIn Fence.wide 0 Yba.prog a w K Q) : wpOpIn Fence.wide 0 Yba.prog ops Q i K a w := by
  have hw : Region.wanted o (yielded ops a.tmps) = true := by simp [Region.wanted, hgd]
  unfold wpOpIn
  simp only [ho, hw, if_true]
  exact h

theorem cons_of {α : Type} {l : List α} {n : Nat} (h : l.length = n + 1) : ∃ x t, l = x :: t ∧ t.length = n := by
  cases l with
  | nil => simp at h
  | cons x t => exact ⟨x, t, rfl, by simpa using h⟩
theorem act34 {a : Act} (h : a.tmps.size = 34) (hd : a.defers = []) : ∃ x0 x1 x2 x3 x4 x5 x6 x7 x8 x9 x10 x11 x12 x13 x14 x15 x16 x17 x18 x19 x20 x21 x22 x23 x24 x25 x26 x27 x28 x29 x30 x31 x32 x33, a = ⟨#[x0, x1, x2, x3, x4, x5, x6, x7, x8, x9, x10, x11, x12, x13, x14, x15, x16, x17, x18, x19, x20, x21, x22, x23, x24, x25, x26, x27, x28, x29, x30, x31, x32, x33], []⟩ := by
  obtain ⟨⟨l⟩, df⟩ := a
  simp only at hd
  subst hd
  have hl : l.length = 34 := h
  clear h
  obtain ⟨x0, l0, rfl, h0⟩ := cons_of hl
  clear hl
  obtain ⟨x1, l1, rfl, h1⟩ := cons_of h0
  clear h0
  obtain ⟨x2, l2, rfl, h2⟩ := cons_of h1
  clear h1
  obtain ⟨x3, l3, rfl, h3⟩ := cons_of h2
  clear h2
  obtain ⟨x4, l4, rfl, h4⟩ := cons_of h3
  clear h3
  obtain ⟨x5, l5, rfl, h5⟩ := cons_of h4
  clear h4
  obtain ⟨x6, l6, rfl, h6⟩ := cons_of h5
  clear h5
  obtain ⟨x7, l7, rfl, h7⟩ := cons_of h6
  clear h6
  obtain ⟨x8, l8, rfl, h8⟩ := cons_of h7
  clear h7
  obtain ⟨x9, l9, rfl, h9⟩ := cons_of h8
  clear h8
  obtain ⟨x10, l10, rfl, h10⟩ := cons_of h9
  clear h9
  obtain ⟨x11, l11, rfl, h11⟩ := cons_of h10
  clear h10
  obtain ⟨x12, l12, rfl, h12⟩ := cons_of h11
  clear h11
  obtain ⟨x13, l13, rfl, h13⟩ := cons_of h12
  clear h12
  obtain ⟨x14, l14, rfl, h14⟩ := cons_of h13
  clear h13
  obtain ⟨x15, l15, rfl, h15⟩ := cons_of h14
  clear h14
  obtain ⟨x16, l16, rfl, h16⟩ := cons_of h15
  clear h15
  obtain ⟨x17, l17, rfl, h17⟩ := cons_of h16
  clear h16
  obtain ⟨x18, l18, rfl, h18⟩ := cons_of h17
  clear h17
  obtain ⟨x19, l19, rfl, h19⟩ := cons_of h18
  clear h18
  obtain ⟨x20, l20, rfl, h20⟩ := cons_of h19
  clear h19
  obtain ⟨x21, l21, rfl, h21⟩ := cons_of h20
  clear h20
  obtain ⟨x22, l22, rfl, h22⟩ := cons_of h21
  clear h21
  obtain ⟨x23, l23, rfl, h23⟩ := cons_of h22
  clear h22
  obtain ⟨x24, l24, rfl, h24⟩ := cons_of h23
  clear h23
  obtain ⟨x25, l25, rfl, h25⟩ := cons_of h24
  clear h24
  obtain ⟨x26, l26, rfl, h26⟩ := cons_of h25
  clear h25
  obtain ⟨x27, l27, rfl, h27⟩ := cons_of h26
  clear h26
  obtain ⟨x28, l28, rfl, h28⟩ := cons_of h27
  clear h27
  obtain ⟨x29, l29, rfl, h29⟩ := cons_of h28
  clear h28
  obtain ⟨x30, l30, rfl, h30⟩ := cons_of h29
  clear h29
  obtain ⟨x31, l31, rfl, h31⟩ := cons_of h30
  clear h30
  obtain ⟨x32, l32, rfl, h32⟩ := cons_of h31
  clear h31
  obtain ⟨x33, l33, rfl, h33⟩ := cons_of h32
  clear h32
  obtain rfl := List.eq_nil_of_length_eq_zero h33
  exact ⟨x0, x1, x2, x3, x4, x5, x6, x7, x8, x9, x10, x11, x12, x13, x14, x15, x16, x17, x18, x19, x20, x21, x22, x23, x24, x25, x26, x27, x28, x29, x30, x31, x32, x33, rfl⟩
theorem getD_any {l : Array Bool} {i k : Nat} (hs : l.size = k) (hi : i < k) (h : l.getD i true = true) : l.getD i false = true := by
  have : i < l.size := by omega
  rw [Array.getD_eq_getD_getElem?, Array.getElem?_eq_getElem this] at h ⊢
  simpa using h

theorem evalG {a : Act} {t : Nat} {v : Value} (h : a.eval (.tmp t) = v) : a.tmps[t]?.getD undef = v := by simpa [Act.eval, Array.getD_eq_getD_getElem?] using h

section
variable {w : World} {sb gb : Nat} {b : Nat → Nat} {n m : Nat} {p : Procs} {dec : Nat → Int} {A : Nat → Option Addr} {C : Nat → Nat} {ad : Option Addr} {cd : Nat}

set_option maxHeartbeats 4000000 in
set_option maxRecDepth 100000 in
/-- The function that Declarations hands back, on any yield. -/
theorem decl_seq (y : Value) (cb : Nat) (J : Nat → Bool → World → Prop) (R : Ending → World → Prop)
    (hcell : ∀ k c w, J k c w → w.cell? ⟨cb, 0, none⟩ = some (.pointer (some ⟨sb, 0, none⟩)))
    (hsnap : ∀ k c w, J k c w → Snap w sb gb b n m p dec A C ad cd)
    (hgrow : ∀ k c w w', J k c w → w.grownBy w' none → J k c w')
    (hyield : ∀ k w x q c, k < m → J k true w → CondOk w n p (dec k).toNat (.agg #[.slice x q c]) → Answers y (.agg #[.int .i64 (p.ln (dec k).toNat), .string (nameOf (p.nm (dec k).toNat)), .slice x q c]) w (fun x w' => ∃ c, x = .bool c ∧ J (k + 1) c w'))
    (hR1 : ∀ w, J m true w → R (.returned (.tuple #[])) w) (hR2 : ∀ k w, J k false w → R (.returned (.tuple #[])) w)
    (h0 : J 0 true w) (hn : n ≤ 1024) (hm : m ≤ 1024) (hLs : ∀ i, i < n → p.tl i ≤ 1024) (hnd : ∀ i, 0 ≤ p.nd i ∧ p.nd i ≤ 255) :
    Calls Yba.prog 28 #[y, .pointer (some ⟨cb, 0, none⟩)] w R := by
  have hc0 := hcell _ _ _ h0
  have s7 := (hsnap _ _ _ h0).s7
  have HC : Hid (∀ k c w, J k c w → w.cell? ⟨cb, 0, none⟩ = some (.pointer (some ⟨sb, 0, none⟩))) := hcell
  have HS : Hid (∀ k c w, J k c w → Snap w sb gb b n m p dec A C ad cd) := hsnap
  have HG : Hid (∀ k c w w', J k c w → w.grownBy w' none → J k c w') := hgrow
  have HY : Hid (∀ k w x q c, k < m → J k true w → CondOk w n p (dec k).toNat (.agg #[.slice x q c]) → Answers y (.agg #[.int .i64 (p.ln (dec k).toNat), .string (nameOf (p.nm (dec k).toNat)), .slice x q c]) w (fun x w' => ∃ c, x = .bool c ∧ J (k + 1) c w')) := hyield
  have H1 : Hid (∀ w, J m true w → R (.returned (.tuple #[])) w) := hR1
  have H2 : Hid (∀ k w, J k false w → R (.returned (.tuple #[])) w) := hR2
  have HL : Hid (∀ i, i < n → p.tl i ≤ 1024) := hLs
  have HN : Hid (∀ i, 0 ≤ p.nd i ∧ p.nd i ≤ 255) := hnd
  have H0 : Hid (J 0 true w) := h0
  clear hcell hsnap hgrow hyield hR1 hR2 hLs hnd h0
  go_enter Yba.func28, Yba.ntmps28
  go_wp2_with fail
  clear hc0 s7
  go_loopw [10] (fun x wr => ∃ k : Nat, k ≤ m ∧ x = .int .i64 k ∧ J k true wr) (fun x _ => m - (intOf x).toNat)
  case atStart => exact ⟨0, Nat.zero_le _, rfl, H0.out⟩
  case round =>
    obtain ⟨k, hk, rfl, hJ⟩ := hrel
    have HJ : Hid (J k true wr) := hJ
    clear hJ H0
    by_cases hlt : k < m
    · obtain ⟨bd, od, rfl, hcd⟩ : ∃ b o, ad = some ⟨b, o, none⟩ ∧ wr.cell? ⟨b, o + k, none⟩ = some (.int .i32 (dec k)) := by
        rcases (HS.out _ _ _ HJ.out).dc with h | ⟨b, o, h1, _, h2⟩
        · omega
        · exact ⟨b, o, h1, h2 k hlt⟩
      have hdk := (HS.out _ _ _ HJ.out).decOk k hlt
      obtain ⟨d, hd⟩ : ∃ d : Nat, dec k = d := ⟨(dec k).toNat, by omega⟩
      have Hd : Hid (dec k = d) := hd
      rw [hd] at hcd hdk
      clear hd
      have hdn : d < n := by omega
      go_upto_region 3 with fail
      clear hcd
      refine wpIn_wide (n := 0).1 (wpIn_region_any rfl ?_)
      refine wpAnyIn_from (fun a0 => Rg p n sb k d b y (nameOf (p.nm d)) J (fun t => a0.eval (.tmp t))) ?_ ?_ ?_ ?_ ?_
      · exact fun l a w h => h.ls
      · intro i o ho
        have hi : i < 19 := (Array.getElem?_eq_some_iff.1 ho).1
        obtain rfl | rfl | rfl | rfl | rfl | rfl | rfl | rfl | rfl | rfl | rfl | rfl | rfl | rfl | rfl | rfl | rfl | rfl | rfl : i = 0 ∨ i = 1 ∨ i = 2 ∨ i = 3 ∨ i = 4 ∨ i = 5 ∨ i = 6 ∨ i = 7 ∨ i = 8 ∨ i = 9 ∨ i = 10 ∨ i = 11 ∨ i = 12 ∨ i = 13 ∨ i = 14 ∨ i = 15 ∨ i = 16 ∨ i = 17 ∨ i = 18 := by omega
        all_goals (have ho' := Option.some.inj ho; subst ho'; simp)
      · intro l a w hI hall
        obtain ⟨x0, x1, x2, x3, x4, x5, x6, x7, x8, x9, x10, x11, x12, x13, x14, x15, x16, x17, x18, x19, x20, x21, x22, x23, x24, x25, x26, x27, x28, x29, x30, x31, x32, x33, ea⟩ : ∃ x0 x1 x2 x3 x4 x5 x6 x7 x8 x9 x10 x11 x12 x13 x14 x15 x16 x17 x18 x19 x20 x21 x22 x23 x24 x25 x26 x27 x28 x29 x30 x31 x32 x33, a = ⟨#[x0, x1, x2, x3, x4, x5, x6, x7, x8, x9, x10, x11, x12, x13, x14, x15, x16, x17, x18, x19, x20, x21, x22, x23, x24, x25, x26, x27, x28, x29, x30, x31, x32, x33], []⟩ := act34 hI.ts hI.df
        obtain ⟨c, hc, hJ1⟩ := hI.good 18 (by omega) (getD_any hI.ls (by omega) (hall 18 (by decide)))
        have e0 := hI.keep 0 (by omega)
        have e1 := hI.keep 1 (by omega)
        have e2 := hI.keep 2 (by omega)
        have e3 := hI.keep 3 (by omega)
        have e5 := hI.keep 5 (by omega)
        have e6 := hI.keep 6 (by omega)
        have e7 := hI.keep 7 (by omega)
        have e8 := hI.keep 8 (by omega)
        have e9 := hI.keep 9 (by omega)
        have e10 := hI.keep 10 (by omega)
        subst ea
        have f0 : y = x0 := e0.symm
        have f1 : x1 = .pointer (some ⟨cb, 0, none⟩) := e1
        have f2 : x2 = undef := e2
        have f3 : x3 = undef := e3
        have f5 : x5 = .pointer (some ⟨sb, 0, none⟩) := e5
        have f6 : x6 = .pointer (some ⟨sb, 0, none⟩) := e6
        have f7 : x7 = .pointer (some ⟨sb, 7, none⟩) := e7
        have f8 : x8 = .slice (some ⟨bd, od, none⟩) m cd := e8
        have f9 : x9 = .int .i64 m := e9
        have f10 : x10 = .int .i64 k := e10
        have f32 : x32 = .bool (!c) := hc
        clear hI e0 e1 e2 e3 e5 e6 e7 e8 e9 e10 hc hall
        subst f0 f1 f2 f3 f5 f6 f7 f8 f9 f10 f32
        cases c with
        | true =>
          have HJ1 : Hid (J (k + 1) true w) := hJ1
          clear hJ1 HJ
          go_wp2_with fail
          go_roundw
          case rel => exact ⟨k + 1, by omega, by go_num, HJ1.out⟩
          case measure => simp [intOf]; omega
        | false =>
          have HJ1 : Hid (J (k + 1) false w) := hJ1
          clear hJ1 HJ
          go_wp2_with fail
          refine bodyPost_ret (v := .tuple #[]) (by simp [results, Yba.results28, go_sem]) rfl ?_
          exact H2.out _ _ HJ1.out
      · intro l a w i o hI ho hb hdep
        have hi : i < 19 := (Array.getElem?_eq_some_iff.1 ho).1
        obtain ⟨k', c', hJ'⟩ : ∃ k' c', J k' c' w := by
          rcases hI.st with ⟨_, h⟩ | ⟨_, c, h⟩
          · exact ⟨_, _, h⟩
          · exact ⟨_, _, h⟩
        have hcb := HC.out _ _ _ hJ'
        have hS := HS.out _ _ _ hJ'
        have e0 := evalG (hI.keep 0 (by omega))
        have e1 := evalG (hI.keep 1 (by omega))
        have e4 := evalG (hI.keep 4 (by omega))
        have hself : w.grownBy w none := ⟨rfl, rfl, rfl, Nat.le_refl _, fun _ _ _ => rfl⟩
        obtain rfl | rfl | rfl | rfl | rfl | rfl | rfl | rfl | rfl | rfl | rfl | rfl | rfl | rfl | rfl | rfl | rfl | rfl | rfl : i = 0 ∨ i = 1 ∨ i = 2 ∨ i = 3 ∨ i = 4 ∨ i = 5 ∨ i = 6 ∨ i = 7 ∨ i = 8 ∨ i = 9 ∨ i = 10 ∨ i = 11 ∨ i = 12 ∨ i = 13 ∨ i = 14 ∨ i = 15 ∨ i = 16 ∨ i = 17 ∨ i = 18 := by omega
        all_goals (have ho' := Option.some.inj ho; subst ho')
        · skip
          exact wpOpIn_val rfl rfl (by simp [execOp, e0, go_sem]) (hI.step HG.out (i := 0) (by omega) hself rfl)
        · skip
          exact wpOpIn_val rfl rfl (by simp [execOp, e1, hcb, go_sem]) (hI.step HG.out (i := 1) (by omega) hself rfl)
        · skip
          have g1 := evalG (hI.good 1 (by omega) (hdep ⟨1, .data⟩ (by simp) rfl))
          exact wpOpIn_val rfl rfl (by simp [execOp, g1, go_sem]) (hI.step HG.out (i := 2) (by omega) hself rfl)
        · skip
          have g2 := evalG (hI.good 2 (by omega) (hdep ⟨2, .data⟩ (by simp) rfl))
          exact wpOpIn_val rfl rfl (by simp [execOp, g2, go_sem]) (hI.step HG.out (i := 3) (by omega) hself rfl)
        · skip
          have g3 := evalG (hI.good 3 (by omega) (hdep ⟨3, .data⟩ (by simp) rfl))
          exact wpOpIn_val rfl rfl (by simp [execOp, g3, hS.s8, go_sem]) (hI.step HG.out (i := 4) (by omega) hself rfl)
        · skip
          exact wpOpIn_val rfl rfl (by simp [execOp, e4, go_sem]) (hI.step HG.out (i := 5) (by omega) hself rfl)
        · skip
          have g4 := evalG (hI.good 4 (by omega) (hdep ⟨4, .data⟩ (by simp) rfl))
          have g5 := evalG (hI.good 5 (by omega) (hdep ⟨5, .data⟩ (by simp) rfl))
          exact wpOpIn_val rfl rfl (by simp [execOp, g4, g5, hdn, go_sem]) (hI.step HG.out (i := 6) (by omega) hself rfl)
        · skip
          have g6 := evalG (hI.good 6 (by omega) (hdep ⟨6, .data⟩ (by simp) rfl))
          exact wpOpIn_val rfl rfl (by simp [execOp, g6, hS.ln d hdn, go_sem]) (hI.step HG.out (i := 7) (by omega) hself rfl)
        · skip
          exact wpOpIn_val rfl rfl (by simp [execOp, e1, hcb, go_sem]) (hI.step HG.out (i := 8) (by omega) hself rfl)
        · skip
          have g8 := evalG (hI.good 8 (by omega) (hdep ⟨8, .data⟩ (by simp) rfl))
          exact wpOpIn_val rfl rfl (by simp [execOp, g8, go_sem]) (hI.step HG.out (i := 9) (by omega) hself rfl)
        · skip
          have g9 := evalG (hI.good 9 (by omega) (hdep ⟨9, .data⟩ (by simp) rfl))
          exact wpOpIn_val rfl rfl (by simp [execOp, g9, go_sem]) (hI.step HG.out (i := 10) (by omega) hself rfl)
        · skip
          exact wpOpIn_val rfl rfl (by simp [execOp, e4, go_sem]) (hI.step HG.out (i := 11) (by omega) hself rfl)
        · skip
          have g10 := evalG (hI.good 10 (by omega) (hdep ⟨10, .data⟩ (by simp) rfl))
          have g11 := evalG (hI.good 11 (by omega) (hdep ⟨11, .data⟩ (by simp) rfl))
          refine wpOpIn_call rfl rfl (by simp [execOp, g10, g11, go_sem]) (nameOf_any hS d hdn) ?_
          rintro e w' ⟨rfl, hg⟩
          exact ⟨_, rfl, hI.step HG.out (i := 12) (by omega) hg rfl⟩
        · skip
          exact wpOpIn_val rfl rfl (by simp [execOp, e1, hcb, go_sem]) (hI.step HG.out (i := 13) (by omega) hself rfl)
        · skip
          exact wpOpIn_val rfl rfl (by simp [execOp, e4, go_sem]) (hI.step HG.out (i := 14) (by omega) hself rfl)
        · skip
          have g13 := evalG (hI.good 13 (by omega) (hdep ⟨13, .data⟩ (by simp) rfl))
          have g14 := evalG (hI.good 14 (by omega) (hdep ⟨14, .data⟩ (by simp) rfl))
          refine wpOpIn_call rfl rfl (by simp [execOp, g13, g14, go_sem]) (waitS_any hS d hdn hn HL.out (HN.out d)) ?_
          rintro e w' ⟨v, rfl, hC, hg⟩
          exact ⟨_, rfl, hI.step HG.out (i := 15) (by omega) hg ⟨hC.shape, fun _ => hC⟩⟩
        · skip
          have g7 := evalG (hI.good 7 (by omega) (hdep ⟨7, .data⟩ (by simp) rfl))
          have g12 := evalG (hI.good 12 (by omega) (hdep ⟨12, .data⟩ (by simp) rfl))
          have gc := hI.good 15 (by omega) (hdep ⟨15, .data⟩ (by simp) rfl)
          obtain ⟨⟨x, q, c, hu⟩, gc⟩ := gc
          have gu := evalG hu
          rw [hu] at gc
          exact wpOpIn_val rfl rfl (by simp [execOp, g7, g12, gu, go_sem]) (hI.step HG.out (i := 16) (by omega) hself ⟨x, q, c, rfl, gc⟩)
        · skip
          have g0 := hI.good 0 (by omega) (hdep ⟨0, .data⟩ (by simp) rfl)
          obtain ⟨x, q, cq, hu, huc⟩ := hI.good 16 (by omega) (hdep ⟨16, .data⟩ (by simp) rfl)
          have hl17 : l.getD 17 false = false := by
            have : 17 < l.size := by rw [hI.ls]; omega
            rw [Array.getD_eq_getD_getElem?, Array.getElem?_eq_getElem this] at hb ⊢
            simpa using hb
          have hJk : J k true w := by
            rcases hI.st with ⟨_, h⟩ | ⟨h, _⟩
            · exact h
            · rw [hl17] at h; cases h
          have hyy := HY.out k w x q cq hlt hJk (by rw [Hd.out, Int.toNat_natCast]; exact huc hl17)
          rw [Hd.out, Int.toNat_natCast] at hyy
          refine wpOpIn_of rfl rfl (hyy _ a _ _ rfl g0 hu ?_)
          rintro v w' ⟨c, rfl, hJ1⟩
          exact hI.answered hb hJ1
        · skip
          have h17 := hdep ⟨17, .data⟩ (by simp) rfl
          obtain ⟨c, hc, hJ1⟩ := hI.good 17 (by omega) (hdep ⟨17, .data⟩ (by simp) rfl)
          have gc := evalG hc
          exact wpOpIn_val rfl rfl (by simp [execOp, gc, go_sem]) (hI.last h17 hJ1)
      · refine ⟨by simp, rfl, rfl, fun _ _ => rfl, ?_, .inl ⟨rfl, HG.out _ _ _ _ HJ.out ⟨rfl, rfl, rfl, Nat.le_refl _, fun _ _ _ => rfl⟩⟩, ?_⟩
        · intro j hj hl
          exfalso
          by_cases hj' : j < 19
          · rw [Array.getD_eq_getD_getElem?] at hl
            simp [hj'] at hl
          · omega
        · intro hl
          simp at hl
    · obtain rfl : k = m := by omega
      go_wp2_with fail
      refine bodyPost_ret (v := .tuple #[]) (by simp [results, Yba.results28, go_sem]) rfl ?_
      exact H1.out _ HJ.out
end
end Go.Proofs.Ybulkaqbo
