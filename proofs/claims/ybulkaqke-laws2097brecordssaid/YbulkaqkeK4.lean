import Derived.Test.YbulkaqkeK3
namespace Go.Proofs.Ybulkaqke
open Go.RowKit Go.WideMaps Go.Maps

theorem run_make_mine {P : Program} (t e : TypeId) (z : Value) (size bytes : Nat) (ht : P.underlying t = some (.slice e)) (hinfo : (P.info? e).map (fun i => (i.zero, i.size, i.bytes)) = some (some z, size, bytes))
    (kl kc : IntKind) (n : Nat) (C : Int) (hC : C = n) (hb : bytes * n ≤ 281474976710656) (h63 : n ≤ 9223372036854775807) (w : World) :
    (Instr.makeSlice t (.int kl 0) (.int kc C)).run P w = .ok (.slice (some ⟨w.heap.size, 0, none⟩) 0 n) (w.alloc (.cells (madeCells z.cells (n * size)) e)) := by
  obtain ⟨i, hi, hzz⟩ := Option.map_eq_some_iff.1 hinfo
  simp only [Prod.mk.injEq] at hzz
  obtain ⟨hz, hs, hby⟩ := hzz
  subst hs
  subst hby
  subst hC
  have hb' : (i.bytes : Int) * (n : Int) ≤ 281474976710656 := by
    have h : ((i.bytes * n : Nat) : Int) ≤ 281474976710656 := by omega
    rwa [Int.natCast_mul] at h
  have hr := run_make (P := P) w t e i z ht hi hz kl kc 0 n (by omega) (by omega) hb' (by omega)
  simpa only [Int.toNat_natCast, Int.toNat_zero] using hr

theorem Yba.info41 : (Yba.prog.info? 41).map (fun i => (i.zero, i.size, i.bytes)) = some (some (.agg (leafV { data := #[] } (.slice none 0 0))), 13, 152) := by kernel_rfl
theorem Yba.info9 : (Yba.prog.info? 9).map (fun i => (i.zero, i.size, i.bytes)) = some (some (.string ByteArray.empty), 1, 16) := by kernel_rfl

/-- A put into a record. -/
theorem wpList_put {w : World} {ops : Array Oper} {rest : List Oper} {o : Oper} {a : Act} {Q : Exit → Act → World → Prop} (hg : o.guard = none) (m x v : Operand) (hop : o.op = Op.mapUpdate 27 m x v) (b n : Nat) (D : DataW Unit) (s c : ByteArray)
    (hm : a.eval m = .map (some b)) (hown : MapIs w b n D) (hn : n < maxLen) (hx : a.eval x = .string s) (hv : a.eval v = .string c) (hs : s.size ≤ maxLen) (hc : c.size ≤ maxLen)
    (hK : ∀ w', MapIs w' b (n + 1) (D.put (key s) (val c)) → w.grownBy w' (some b) → wpList Yba.prog ops Q rest (a.put o.dst undef) w') :
    wpList Yba.prog ops Q (o :: rest) a w :=
  wpList_mapUpdate_own w hg m x v 27 hop 9 9 law Yba.underlying27 (plainElem Yba.prog 9) b n D hm hown hn (.string s) (.string c) (key s) hx hv (key_of hs) (val c) [] (plainElem_string Yba.underlying9 hc) hK

/-- A key more. -/
theorem wpList_key {W0 w : World} {ops : Array Oper} {rest : List Oper} {o : Oper} {ac : Act} {Q : Exit → Act → World → Prop} (hgd : o.guard = none) (s x : Operand) (ho : o.op = .call { callee := .builtin .append, args := #[s, x], argTypes := #[23, 23] })
    {mb eb wb N M : Nat} {D D2 : DataW Unit} {ka : Option Addr} {kc : Nat} {ks : List ByteArray} (L : Nat) (hL : ks.length = L) (t : ByteArray) (hs : ac.eval s = .slice ka L kc) (hx : ac.eval x = .slice (some ⟨w.heap.size, 0, none⟩) 1 1)
    (hst : St W0 w mb eb wb N M D D2 ka kc ks) (ht : t.size ≤ maxLen) (hlen : L ≤ 100000)
    (h : ∀ g cap w', St W0 w' mb eb wb N M D D2 (some ⟨g, 0, none⟩) cap (ks ++ [t]) → w.grownBy w' (blk ka) → wpList Yba.prog ops Q rest (ac.put o.dst (.slice (some ⟨g, 0, none⟩) (L + 1) cap)) w') :
    wpList Yba.prog ops Q (o :: rest) ac (w.alloc (.cells #[.string t] 9)) := by
  obtain ⟨i9, h90, hzz⟩ := Option.map_eq_some_iff.1 Yba.info9
  simp only [Prod.mk.injEq] at hzz
  obtain ⟨h91, h92, h93⟩ := hzz
  have hga := World.grownBy_alloc w (.cells #[.string t] 9) none
  have hst1 := hst.more hga
  subst hL
  refine wpList_append_mine _ hgd s x 23 ho 9 i9 (.string ByteArray.empty) 1 16 Yba.underlying23 h90 h91 h92 h93 rfl (by decide) ka ks.length kc _ hs hst1.ky ⟨w.heap.size, 0, none⟩ 1 1 (by decide) [.string t] hx rfl ?_ (by simp [Value.oneCell']) (by unfold maxLen; omega) (by omega) ?_
  · intro j u hj
    have hr := heap_alloc_new w (.cells #[.string t] 9)
    have h0 : j = 0 := by
      have := (List.getElem?_eq_some_iff.1 hj).1
      simp at this
      omega
    subst h0
    simp at hj
    subst hj
    rw [Addr.add_lit]
    simp only [World.cell?, hr]
    rfl
  · intro g cap w' h1 h2 h3
    refine h g cap w' (hst1.key h1 h2 h3 ht) ?_
    exact grownBy_then hga h2 (by simp) (fun g hg _ => hg)

/-- An element more. -/
theorem wpList_elem {w : World} {ops : Array Oper} {rest : List Oper} {o : Oper} {ac : Act} {Q : Exit → Act → World → Prop} (hgd : o.guard = none) (s x : Operand) (ho : o.op = .call { callee := .builtin .append, args := #[s, x], argTypes := #[35, 35] })
    (tb i ct : Nat) (xs : List Value) (nm : ByteArray) (m : Mem) (hs : ac.eval s = .slice (some ⟨tb, 0, none⟩) i ct) (hx : ac.eval x = .slice (some ⟨w.heap.size, 0, none⟩) 1 1)
    (hown : Own w 41 13 (some ⟨tb, 0, none⟩) i ct xs) (hlen : i ≤ 100000)
    (h : ∀ g cap w', Own w' 41 13 (some ⟨g, 0, none⟩) (i + 1) cap (xs ++ (leafV nm m.val).toList) → (w.alloc (.cells (leafV nm m.val) 41)).grownBy w' (some tb) → ((some ⟨tb, 0, none⟩ : Option Addr) = some ⟨g, 0, none⟩ ∨ g = (w.alloc (.cells (leafV nm m.val) 41)).heap.size) →
      wpList Yba.prog ops Q rest (ac.put o.dst (.slice (some ⟨g, 0, none⟩) (i + 1) cap)) w') :
    wpList Yba.prog ops Q (o :: rest) ac (w.alloc (.cells (leafV nm m.val) 41)) := by
  obtain ⟨i41, h90, hzz⟩ := Option.map_eq_some_iff.1 Yba.info41
  simp only [Prod.mk.injEq] at hzz
  obtain ⟨h91, h92, h93⟩ := hzz
  refine wpList_append_mine _ hgd s x 35 ho 41 i41 (.agg (leafV { data := #[] } (.slice none 0 0))) 13 152 Yba.underlying35 h90 h91 h92 h93 rfl (by decide) (some ⟨tb, 0, none⟩) i ct xs hs (hown.kept (World.grownBy_alloc w _ none) (by simp)) ⟨w.heap.size, 0, none⟩ 1 1 (by decide) (leafV nm m.val).toList hx rfl ?_ ?_ (by unfold maxLen; omega) (by omega) h
  · intro j u hj
    have hr := heap_alloc_new w (.cells (leafV nm m.val) 41)
    rw [Array.getElem?_toList] at hj
    rw [Addr.add_lit]
    simp only [World.cell?, hr]
    simpa using hj
  · intro u hu
    simp [leafV, Mem.val] at hu
    rcases hu with rfl | rfl | rfl | rfl | rfl | rfl | rfl | rfl | rfl | rfl <;> rfl

/-- The wanted record behind the prior names. -/
def priorS : ByteArray := { data := #[0, 112, 114, 105, 111, 114] }
def priorD (pr : Nat → ByteArray) : Nat → DataW Unit
  | 0 => .map []
  | j + 1 => (priorD pr j).put (key (pr j)) (val priorS)

theorem st_start (W : World) : St W ((((W.alloc (.map #[] 0)).alloc (.cells #[.slice none 0 0, .int .i64 0, .map none, .map (some W.heap.size)] 34)).alloc (.map #[] 0)).alloc (.cells #[] 9)) W.heap.size (W.heap.size + 1) (W.heap.size + 1 + 1) 0 0 (.map []) (.map []) (some ⟨W.heap.size + 1 + 1 + 1, 0, none⟩) 0 [] := by
  have h1 := World.ownsMap_made W Yba.prog 9 (plainElem (H := Unit) Yba.prog 9)
  have h2 := World.ownsMap_made ((W.alloc (.map #[] 0)).alloc (.cells #[.slice none 0 0, .int .i64 0, .map none, .map (some W.heap.size)] 34)) Yba.prog 9 (plainElem (H := Unit) Yba.prog 9)
  have he := heap_alloc_new (W.alloc (.map #[] 0)) (.cells #[.slice none 0 0, .int .i64 0, .map none, .map (some W.heap.size)] 34)
  have hk := heap_alloc_new (((W.alloc (.map #[] 0)).alloc (.cells #[.slice none 0 0, .int .i64 0, .map none, .map (some W.heap.size)] 34)).alloc (.map #[] 0)) (.cells #[] 9)
  simp only [World.size_alloc] at h2 he hk
  refine ⟨((((Below.refl _ W).alloc (Nat.le_refl _) _).alloc (by simp) _).alloc (by simp; omega) _).alloc (by simp; omega) _, World.ownsMap.alloc (World.ownsMap.alloc (World.ownsMap.alloc h1 _) _) _, World.ownsMap.alloc h2 _, by omega, ?_, ?_, by simp, by omega, by omega, by omega, ?_⟩
  · exact ((World.grownBy_alloc _ (.cells #[] 9) none).block _ (by simp) (by simp)).trans (((World.grownBy_alloc _ (.map #[] 0) none).block _ (by simp) (by simp)).trans he)
  · exact Own.mk hk (Nat.le_refl _) (Nat.zero_le _) rfl rfl
  · intro g hg
    simp [blk] at hg
    omega

end Go.Proofs.Ybulkaqke
