import Derived.Test.YbulkaqkeK7
import Derived.ChangeOld
import Derived.Deep.Matrix
import Derived.Deep.Strs
namespace Go.Proofs.Ybulkaqke
open Go.RowKit Go.ChangeShapes Go.WideShapes Go.ChangeAt Go.Deep
open Go.ChangeMaps (open_string shut_string)

theorem rown : ownKnob Yba.prog.godebug = none := by kernel_rfl
theorem rlaidOut : laidOutB Yba.prog = true := by kernel_rfl

section
variable {H : Type} {enc : TypeId × Value → H} {W : World}
/-- A slice of strings, out of its cells. -/
theorem strs_of {cs : List Value} {fuel : Nat} {x : DataW H × List MemPlace} (hf : DataW.trod enc Yba.prog W 0 (fun _ => true) true fuel 23 cs = some x) :
    ∃ (a : Option Addr) (n c : Nat) (S : Nat → ByteArray), cs = [.slice a n c] ∧ In1 W a n (fun j => .string (S j)) ∧ ∀ j, (S j).size ≤ maxLen := by
  rcases open_strs Yba.underlying23 Yba.underlying9 (by kernel_rfl) hf with ⟨hcs, _⟩ | ⟨x, l, c', m, S, hcs, _, hl, hm, hmm, _, hcell⟩
  · exact ⟨none, 0, 0, fun _ => ByteArray.empty, hcs, .inl rfl, fun _ => Nat.zero_le _⟩
  · simp only [if_true] at hmm
    subst hmm
    refine ⟨some x, l, m, fun i => if i < m then S i else ByteArray.empty, hcs, ?_, fun j => ?_⟩
    · by_cases hn : l = 0
      · exact .inl hn
      obtain ⟨b, o, sp⟩ := x
      have hsp : sp = none := by simpa [Addr.add] using World.cell?_spot (hcell 0 (by omega)).1
      subst hsp
      refine .inr ⟨b, o, rfl, World.block_lt_of_cell? W _ (hcell 0 (by omega)).1, fun i hi => ?_⟩
      have := (hcell i (by omega)).1
      rw [Addr.add_lit] at this
      simpa only [show i < m by omega, if_true] using this
    · by_cases hj : j < m
      · simpa only [hj, if_true] using (hcell j hj).2
      · simp [hj]

structure Gr1 where
  name : ByteArray
  ka : Option Addr
  kl : Nat
  kc : Nat
  kid : Nat → ByteArray
  leaf : Bool

def Gr1.At (W : World) (a : Addr) (y : Gr1) : Prop :=
  W.cell? a = some (.string y.name) ∧ W.cell? (a.add 1) = some (.slice y.ka y.kl y.kc) ∧ W.cell? (a.add 2) = some (.bool y.leaf) ∧ In1 W y.ka y.kl (fun j => .string (y.kid j)) ∧ y.name.size ≤ maxLen ∧ ∀ j, (y.kid j).size ≤ maxLen

theorem three_of {α : Type} {l : List α} (h : l.length = 3) : ∃ a b c, l = [a, b, c] := by
  match l, h with
  | [a, b, c], _ => exact ⟨a, b, c, rfl⟩

theorem group_of {a : Addr} {cs : List Value} {fuel : Nat} {x : DataW H × List MemPlace} (hc : W.cells? 0 a 3 = some cs) (h : DataW.trod enc Yba.prog W 0 (fun _ => true) true fuel 25 cs = some x) : ∃ y : Gr1, y.At W a := by
  obtain ⟨_, hlen, hcell⟩ := World.cells?_some hc
  obtain ⟨xs, k, hk, hxy, _, hxl, hf⟩ := DataW.trod_struct Yba.underlying25 h
  have c9 : Yba.prog.cellsOf 9 = 1 := by kernel_rfl
  have c23 : Yba.prog.cellsOf 23 = 1 := by kernel_rfl
  have c4 : Yba.prog.cellsOf 4 = 1 := by kernel_rfl
  have hxl' : xs.length = 3 := hxl
  clear hxl hxy
  obtain ⟨y0, y1, y2, rfl⟩ := three_of hxl'
  obtain ⟨v0, v1, v2, rfl⟩ := three_of hlen
  have g0 := hf 0 _ rfl
  have g1 := hf 1 _ rfl
  have g2 := hf 2 _ rfl
  simp [c9, c23, c4] at g0 g1 g2
  obtain ⟨nm, e0, _, w0⟩ := DataW.trod_string Yba.underlying9 g0
  obtain ⟨ta, tl, tc, td, e1, hin, htd⟩ := strs_of g1
  obtain ⟨wt, e2, _⟩ := DataW.trod_bool Yba.underlying4 g2
  simp at e0 e1 e2
  subst e0 e1 e2
  have h0 := hcell 0 (by omega)
  have h1 := hcell 1 (by omega)
  have h2 := hcell 2 (by omega)
  exact ⟨⟨nm, ta, tl, tc, td, wt⟩, by simpa [Addr.add] using h0, h1, h2, hin, w0, htd⟩

/-- A slice of groups that came in. -/
theorem inGs_of {a : Option Addr} {n c : Nat} {d : DataW H} {p : List MemPlace} (h : DataW.Trod enc Yba.prog W 0 (fun _ => true) true 22 (.slice a n c) d p) :
    ∃ q : Gs, InGs W a n q := by
  obtain ⟨fuel, hf⟩ := h
  have c25 : Yba.prog.cellsOf 25 = 3 := by kernel_rfl
  rcases open_slice Yba.underlying22 hf with ⟨hcs, _⟩ | ⟨x, l, c', m, k, D, Pl, hcs, _, hl, hm, hmm, _, hr⟩
  · simp [Value.cells] at hcs
    obtain ⟨rfl, rfl, rfl⟩ := hcs
    exact ⟨⟨fun _ => ByteArray.empty, fun _ => none, fun _ => 0, fun _ => 0, fun _ _ => ByteArray.empty, fun _ => false⟩, .inl rfl, fun i hi => by omega, fun _ => Nat.zero_le _, fun _ _ => Nat.zero_le _⟩
  · simp [Value.cells] at hcs
    obtain ⟨rfl, rfl, rfl⟩ := hcs
    simp only [if_true] at hmm
    subst hmm
    rw [c25] at hr
    have each : ∀ i, i < m → ∃ y : Gr1, y.At W (x.add (i * 3)) := by
      intro i hi
      obtain ⟨cs, h1, h2⟩ := hr i hi
      exact group_of h1 h2
    haveI : Inhabited Gr1 := ⟨⟨ByteArray.empty, none, 0, 0, fun _ => ByteArray.empty, false⟩⟩
    obtain ⟨y, hy⟩ := choose_lt each
    refine ⟨⟨fun i => if i < n then (y i).name else ByteArray.empty, fun i => (y i).ka, fun i => (y i).kl, fun i => (y i).kc, fun i j => if i < n then (y i).kid j else ByteArray.empty, fun i => (y i).leaf⟩, ?_, fun i hi => ?_, fun i => ?_, fun i j => ?_⟩
    · by_cases hn : n = 0
      · exact .inl hn
      obtain ⟨b, o, sp⟩ := x
      have hsp : sp = none := by simpa [Addr.add] using World.cell?_spot (hy 0 (by omega)).1
      subst hsp
      refine .inr ⟨b, o, rfl, World.block_lt_of_cell? W _ (hy 0 (by omega)).1, fun i hi => ?_⟩
      obtain ⟨h0, h1, h2, _⟩ := hy i (by omega)
      rw [Addr.add_lit] at h0 h1 h2
      rw [Addr.add_lit] at h1 h2
      simp only [hi, if_true]
      exact ⟨h0, h1, h2⟩
    · obtain ⟨_, _, _, h5, _⟩ := hy i (by omega)
      simpa only [hi, if_true] using h5
    · by_cases hi : i < n
      · simpa only [hi, if_true] using (hy i (by omega)).2.2.2.2.1
      · simp [hi]
    · by_cases hi : i < n
      · simpa only [hi, if_true] using (hy i (by omega)).2.2.2.2.2 j
      · simp [hi]
end

set_option maxRecDepth 100000 in
theorem records_lifted (os : Os) (started : os.Started) (H : Type) (enc : TypeId × Value → H) :
    ReturnsInHanded {} Yba.checked os 3 .any (Rows.lawS2097BRecordsSpec.pre6 enc Yba.prog Yba.f3 Rows.lawS2097BRecordsRow.domain false) (Rows.lawS2097BRecordsSpec.post enc Yba.prog Yba.f3 false true false false) := by
  refine returnsInHanded_of_change (C := Yba.checked) rown started (by kernel_rfl) Yba.func3
    (ChangeSpec.witness6 (enc := enc) (C := Yba.checked) false ⟨#[], #[.slice none 0 0, .string ByteArray.empty, .slice none 0 0], []⟩ 8 (by kernel_rfl) (by kernel_rfl) (by kernel_rfl) (by kernel_rfl)) ?_
  intro W base args ds gs before hval0 hW hcnd _
  have hval : ∀ (j : Nat) t v, Yba.f3.params[j]? = some t → args[j]? = some v → Value.okWide Yba.prog W .any base t v := hval0
  have hW' := hW
  obtain ⟨p, q, hA0, hV, rfl, hfz, hnd⟩ := hW
  have hA : DataW.TrodAll enc Yba.prog W 0 (fun _ => true) true Yba.f3.params.toList args.toList ds p := hA0
  rw [Yba.params3] at hA hval
  obtain ⟨v0, vs0, d0, ds0, p0, q0, hargs, rfl, rfl, h0, r0⟩ := trodAll_cons hA
  obtain ⟨v1, vs1, d1, ds1, p1, q1, rfl, rfl, rfl, h1, r1⟩ := trodAll_cons r0
  obtain ⟨v2, vs2, d2, ds2, p2, q2, rfl, rfl, rfl, h2, r2⟩ := trodAll_cons r1
  obtain ⟨rfl, rfl, rfl⟩ := trodAll_nil r2
  obtain rfl : args = #[v0, v1, v2] := by cases args; simp_all
  obtain ⟨rfl, rfl⟩ := trodVars_none hV
  obtain ⟨a0, n0, c0, rfl⟩ := okWide_slice Yba.underlying22 (hval 0 22 v0 rfl rfl)
  obtain ⟨a1, rfl, rfl, rfl, w1⟩ := open_string Yba.underlying9 (hval 1 9 v1 rfl rfl) h1
  obtain ⟨a2, n2, c2, rfl⟩ := okWide_slice Yba.underlying23 (hval 2 23 v2 rfl rfl)
  have lt0 : ∀ x ∈ p0, x.block < W.heap.size := by obtain ⟨m, hm⟩ := h0; exact DataW.trod_lt m _ _ _ hm
  have lt2 : ∀ x ∈ p2, x.block < W.heap.size := by obtain ⟨m, hm⟩ := h2; exact DataW.trod_lt m _ _ _ hm
  obtain ⟨P, g0⟩ := inGs_of h0
  obtain ⟨S, g2, hS⟩ : ∃ S : Nat → ByteArray, In1 W a2 n2 (fun i => .string (S i)) ∧ ∀ i, (S i).size ≤ maxLen := by
    obtain ⟨fuel, hf⟩ := h2
    obtain ⟨a, n, c, td, e, hin, htd⟩ := strs_of hf
    simp [Value.cells] at e
    obtain ⟨rfl, rfl, rfl⟩ := e
    exact ⟨td, hin, htd⟩
  clear hA0 hval0
  refine (records_walk a0 n0 c0 P a1 a2 n2 c2 S W g0 g2 hS w1).mono fun e W' ⟨he, bel⟩ => ?_
  subst he
  exact ⟨_, rfl, _, _, _, [], _, [], hW', trodAll_mk1 (shut_bool Yba.underlying4 _), (trodAll_cons_mk (Below.trod rlaidOut (by kernel_rfl) (of_decide_eq_true (by kernel_rfl)) h0 bel lt0) (trodAll_cons_mk (shut_string Yba.underlying9 w1) (trodAll_cons_mk (Below.trod rlaidOut (by kernel_rfl) (of_decide_eq_true (by kernel_rfl)) h2 bel lt2) trodAll_mk0))), rfl, bel.frame _, fun h => by cases h⟩

theorem records_proved : Rows.LawS2097BRecordsSaid :=
  OpenClaim.holds_of_wide 3 Yba.f3 rfl rfl rfl rfl rfl rfl rfl ⟨rfl, rfl, rfl, rfl, rfl⟩ rfl rfl rfl rfl rfl (by kernel_rfl) Yba.func3 (by kernel_rfl)
    (of_decide_eq_true (by kernel_rfl)) (by unfold Func.isWrapper; first | (rw [if_pos (by decide +kernel)]; kernel_rfl) | (rw [if_neg (by decide +kernel)]; exact ⟨rfl, rfl⟩))
    (fun os started H enc _ => records_lifted os started H enc)
end Go.Proofs.Ybulkaqke
