import Derived.Test.YbulkaqkeRows
import Derived.WalkKit
import Derived.ProofKit
import Derived.OpenShut
import Derived.ShutString
import Derived.Maps.OwnSet
import Derived.Maps.StringElems
import Derived.BigRegion
import Derived.Deep.Cut
import Derived.Lib.SliceRun
namespace Go.Proofs.Ybulkaqke
open Go.RowKit Go.WideMaps Go.Maps

theorem law : Keyed Yba.prog 9 := string_keyed Yba.underlying9
theorem zero9 (w : World) : (zeroValue 9).run Yba.prog w = .ok (.string ByteArray.empty) w := by kernel_rfl

/-- Block b is a map of strings by strings that reads as D. -/
def MapIs (w : World) (b n : Nat) (D : DataW Unit) : Prop := w.ownsMap Yba.prog 9 (plainElem Yba.prog 9) b n D
def key (s : ByteArray) : Lit := .string s.data.toList
def val (s : ByteArray) : DataW Unit := .lit (.string s.data.toList)

theorem key_of {s : ByteArray} (h : s.size ≤ maxLen) : keyOf Yba.prog 9 (.string s) = some (key s) := keyOf_string_mk Yba.underlying9 h

set_option maxHeartbeats 1000000 in
set_option maxRecDepth 100000 in
/-- leaveOut of a single element. -/
theorem leave_leaf (eb mb n : Nat) (D : DataW Unit) (s c : ByteArray) (x1 x2 x3 x4 x5 x6 x7 x9 x10 x11 x12 : Value) (w : World) (he : w.cell? ⟨eb, 3, none⟩ = some (.map (some mb))) (hown : MapIs w mb n D) (hn : n < maxLen) (hs : s.size ≤ maxLen) (hc : c.size ≤ maxLen) :
    Calls Yba.prog 5 #[.pointer (some ⟨eb, 0, none⟩), .agg #[.string s, x1, x2, x3, x4, x5, x6, x7, .slice none 0 0, x9, x10, x11, x12], .string c] w fun e w' => e = .returned (.tuple #[]) ∧ MapIs w' mb (n + 1) (D.put (key s) (val c)) ∧ w.grownBy w' (some mb) := by
  have hg := World.grownBy_alloc w (.cells #[.string s, x1, x2, x3, x4, x5, x6, x7, .slice none 0 0, x9, x10, x11, x12] 41) none
  have hr := heap_alloc_new w (.cells #[.string s, x1, x2, x3, x4, x5, x6, x7, .slice none 0 0, x9, x10, x11, x12] 41)
  have k0 : (w.alloc (.cells #[.string s, x1, x2, x3, x4, x5, x6, x7, .slice none 0 0, x9, x10, x11, x12] 41)).cell? ⟨w.heap.size, 0, none⟩ = some (.string s) := by simp only [World.cell?, hr]; rfl
  have k8 : (w.alloc (.cells #[.string s, x1, x2, x3, x4, x5, x6, x7, .slice none 0 0, x9, x10, x11, x12] 41)).cell? ⟨w.heap.size, 8, none⟩ = some (.slice none 0 0) := by simp only [World.cell?, hr]; rfl
  have k3 : (w.alloc (.cells #[.string s, x1, x2, x3, x4, x5, x6, x7, .slice none 0 0, x9, x10, x11, x12] 41)).cell? ⟨eb, 3, none⟩ = some (.map (some mb)) := (World.cell?_alloc_lt _ _ _ (World.block_lt_of_cell? w _ he)).trans he
  have ho := World.ownsMap.kept hown hg (by simp)
  obtain ⟨w2, hrun, r1, r2⟩ := (World.ownsMap.drew ho).update law Yba.underlying27 hn (key_of hs) (plainElem_string (H := Unit) Yba.underlying9 hc)
  have HR : Hid (MapIs w2 mb (n + 1) (D.put (key s) (val c))) := r1
  have HG : Hid (w.grownBy w2 (some mb)) := by
    have g1 : w.grownBy (w.alloc (.cells #[.string s, x1, x2, x3, x4, x5, x6, x7, .slice none 0 0, x9, x10, x11, x12] 41)).drew none := ⟨hg.os, hg.tape, hg.output, hg.size, hg.block⟩
    exact ⟨r2.os.trans g1.os, r2.tape.trans g1.tape, r2.output.trans g1.output, Nat.le_trans g1.size r2.size, fun j hj hne => (r2.block j (Nat.lt_of_lt_of_le hj g1.size) hne).trans (g1.block j hj (by simp))⟩
  have hmb : mb < w.heap.size := World.ownsMap.lt hown
  have k8' : w2.cell? ⟨w.heap.size, 8, none⟩ = some (.slice none 0 0) := by
    have hb := r2.block w.heap.size (by show _ < (w.alloc _).heap.size; simp) (fun e => by have := Option.some.inj e; omega)
    have e1 : w2.cell? ⟨w.heap.size, 8, none⟩ = (w.alloc (.cells #[.string s, x1, x2, x3, x4, x5, x6, x7, .slice none 0 0, x9, x10, x11, x12] 41)).drew.cell? ⟨w.heap.size, 8, none⟩ := by simp only [World.cell?, hb]
    exact e1.trans k8
  clear r1 r2 ho hg hr hown
  have hq : ∀ (w : World) (a : Option Addr) (n c n' c' : Nat), (binOp .eql 35 (.slice a n c) (.slice none n' c')).run Yba.prog w = .ok (.bool a.isNone) w := fun w a n c n' c' => Lib.run_eql_slice_nil w 35 _ a n c n' c' Yba.underlying35
  go_enter Yba.func5, Yba.ntmps5
  go_upto_region 1 with fail
  generalize w.alloc (.cells #[.string s, x1, x2, x3, x4, x5, x6, x7, .slice none 0 0, x9, x10, x11, x12] 41) = W1 at *
  go_upto_region 2 with fail
  go_region
  clear k0 k3 k8 hrun
  go_wp2_with fail
  refine wp_loop_rounds 1 ?_
  rw [rounds_succ]
  go_wp2_with fail
  refine ⟨rfl, .tuple #[], ?_, rfl, HR.out, HG.out⟩
  simp [results, Yba.results5, go_sem]

/-- 'v, ok := m[k]' on a map of strings that the call made. -/
theorem wpList_lookup_str {P : Program} (w : World) {ops : Array Oper} {rest : List Oper} {o : Oper} {a : Act} {Q : Exit → Act → World → Prop} (hg : o.guard = none) (m x : Operand) (t : TypeId) (hop : o.op = Op.lookup t m x true)
    (k e : TypeId) (K : Keyed P k) (ht : P.underlying t = some (.map k e)) (he : P.underlying e = some .string) (hz : (zeroValue e).run P w = .ok (.string ByteArray.empty) w) (b n : Nat) (D : DataW Unit)
    (hm : a.eval m = .map (some b)) (hown : w.ownsMap P k (plainElem P e) b n D) (key : Value) (kl : Lit) (hx : a.eval x = key) (hkey : keyOf P k key = some kl)
    (hK : ∀ c : ByteArray, D.atKey kl (.lit (.string [])) = .lit (.string c.data.toList) → wpList P ops Q rest (a.put o.dst (.tuple #[.string c, .bool (Maps.has D kl)])) w) :
    wpList P ops Q (o :: rest) a w :=
  wpList_lookup_own_ok w hg m x t hop k e K ht (plainElem P e) hz (.lit (.string [])) [] (plainElem_string he (Nat.zero_le _)) b n D hm hown key kl hx hkey (fun v ps hv => by
    obtain ⟨c, rfl, hc, _⟩ := plainElem_string_inv he hv
    exact hK c (congrArg Prod.fst hc))

set_option maxHeartbeats 1000000 in
set_option maxRecDepth 100000 in
theorem leaf_walk (s c : ByteArray) (hs : s.size ≤ maxLen) (hc : c.size ≤ maxLen) (w : World) :
    Calls Yba.prog 4 #[.string s, .string c] w fun e w' => e = .returned (.bool true) ∧ Below w.heap.size w w' := by
  have hmm := @run_makeMap Yba.prog
  go_enter Yba.func4, Yba.ntmps4
  go_wp2_with fail
  have ho : MapIs ((w.alloc (.map #[] 0)).alloc (.cells #[.slice none 0 0, .int .i64 0, .map none, .map (some w.heap.size)] 34)) w.heap.size 0 (.map []) := World.ownsMap.alloc (World.ownsMap_made w Yba.prog 9 _) _
  have hr := heap_alloc_new (w.alloc (.map #[] 0)) (.cells #[.slice none 0 0, .int .i64 0, .map none, .map (some w.heap.size)] 34)
  rw [World.size_alloc] at hr
  have hc3 : ((w.alloc (.map #[] 0)).alloc (.cells #[.slice none 0 0, .int .i64 0, .map none, .map (some w.heap.size)] 34)).cell? ⟨w.heap.size + 1, 3, none⟩ = some (.map (some w.heap.size)) := by simp only [World.cell?, hr]; rfl
  have HB : Hid (Below w.heap.size w ((w.alloc (.map #[] 0)).alloc (.cells #[.slice none 0 0, .int .i64 0, .map none, .map (some w.heap.size)] 34))) := ((Below.refl _ w).alloc (Nat.le_refl _) _).alloc (by simp) _
  have hz : (w.alloc (.map #[] 0)).heap.size = w.heap.size + 1 := by simp
  refine (leave_leaf (w.heap.size + 1) w.heap.size 0 (.map []) s c _ _ _ _ _ _ _ _ _ _ _ _ hc3 ho (by unfold maxLen; omega) hs hc).mono ?_
  rintro e w2 ⟨rfl, hm, hg⟩
  have hc3' : w2.cell? ⟨w.heap.size + 1, 3, none⟩ = some (.map (some w.heap.size)) := by
    have hb := hg.block (w.heap.size + 1) (by simp) (fun e => by have := Option.some.inj e; omega)
    simp only [World.cell?, hb, hr]
    rfl
  have HBL : Hid (Below w.heap.size w w2) := HB.out.grown hg (by simp; omega) (by simp)
  have e1 : Maps.size ((DataW.map [] : DataW Unit).put (key s) (val c)) = 1 := rfl
  have hik : WideAt.IsKeyLit (key s) := by simp [key, WideAt.IsKeyLit]
  have e2 : Maps.has ((DataW.map [] : DataW Unit).put (key s) (val c)) (key s) = true := has_put_same ⟨_, rfl⟩ hik _
  have e3 : ((DataW.map [] : DataW Unit).put (key s) (val c)).atKey (key s) (.lit (.string [])) = val c := atKey_put_same ⟨_, rfl⟩ hik _ _
  have HM : Hid (MapIs w2 w.heap.size 1 ((DataW.map [] : DataW Unit).put (key s) (val c))) := hm
  clear hm hg hr ho hc3 HB hz
  generalize (DataW.map [] : DataW Unit).put (key s) (val c) = D at *
  go_upto_region 5 with (at_len; refine wpList_len_own _ rfl (.tmp 19) 27 rfl 9 9 Yba.underlying27 (plainElem Yba.prog 9) w.heap.size 1 D rfl HM.out ?_)
  go_upto_region 6 with (at_lookup; refine wpList_lookup_str _ rfl (.tmp 26) (.tmp 27) 27 rfl 9 9 law Yba.underlying27 Yba.underlying9 (zero9 _) w.heap.size 1 D rfl HM.out (.string s) (key s) rfl (key_of hs) ?_; rw [e2]; intro c' hc')
  have ecc : c' = c := by
    rw [e3] at hc'
    simp [val] at hc'
    have h2 : c.data = c'.data := hc'
    cases c
    cases c'
    simp at h2
    rw [h2]
  subst ecc
  clear hc' e3
  go_wp2_with fail
  go_ret
  exact ⟨by simp, HBL.out⟩
end Go.Proofs.Ybulkaqke
