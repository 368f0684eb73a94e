import Derived.Test.YbulkaqboB12
import Derived.Test.YbulkaqboAArgs
namespace Go.Proofs.Ybulkaqbo
open Go.RowKit Go.ChangeShapes Go.WideShapes Go.ChangeAt Go.Deep


section
variable {H : Type} {enc : TypeId × Value → H} {W : World}
/-- A slice of bytes, out of its cells. -/
theorem bytes_of {cs : List Value} {fuel : Nat} {x : DataW H × List MemPlace} (hf : DataW.trod enc Yba.prog W 0 (fun _ => true) true fuel 37 cs = some x) :
    ∃ (a : Option Addr) (n c : Nat) (td : Nat → Int), cs = [.slice a n c] ∧ In1 W a n (fun j => .int .u8 (td j)) ∧ ∀ j, 0 ≤ td j ∧ td j ≤ 255 := by
  have hwf : ∀ q : Int, (Lit.int .u8 q).wf = true → 0 ≤ q ∧ q ≤ 255 := by
    intro q hq
    simp [Lit.wf, IntKind.min, IntKind.max, IntKind.signed, IntKind.bits] at hq
    omega
  rcases open_ints Yba.underlying37 Yba.underlying5 (by kernel_rfl) hf with ⟨hcs, _⟩ | ⟨x, l, c', zs, hcs, _, hl, hm, hz, _, hcell, hwz⟩
  · exact ⟨none, 0, 0, fun _ => 0, hcs, .inl rfl, fun _ => ⟨by simp, by simp⟩⟩
  · simp only [if_true] at hz
    refine ⟨some x, l, c', fun i => zs.getD i 0, hcs, ?_, fun j => ?_⟩
    · by_cases hn : l = 0
      · exact .inl hn
      obtain ⟨b, o, sp⟩ := x
      have hsp : sp = none := by simpa [Addr.add] using World.cell?_spot (hcell 0 (by omega))
      subst hsp
      refine .inr ⟨b, o, rfl, ?_, fun i hi => ?_⟩
      · exact World.block_lt_of_cell? W _ (hcell 0 (by omega))
      · have := hcell i (by omega)
        rwa [Addr.add_lit] at this
    · by_cases hj : j < zs.length
      · have := hwf _ (hwz (zs[j]) (List.getElem_mem hj))
        simpa [hj] using this
      · simp [hj]

structure Proc1 where
  nm : Int
  ln : Int
  wt : Bool
  nd : Int
  ta : Option Addr
  tl : Nat
  tc : Nat
  td : Nat → Int

def Proc1.At (W : World) (a : Addr) (y : Proc1) : Prop :=
  W.cell? a = some (.int .u8 y.nm) ∧ W.cell? (a.add 1) = some (.int .i64 y.ln) ∧ W.cell? (a.add 2) = some (.bool y.wt) ∧ W.cell? (a.add 3) = some (.int .u8 y.nd) ∧ W.cell? (a.add 4) = some (.slice y.ta y.tl y.tc) ∧
  In1 W y.ta y.tl (fun j => .int .u8 (y.td j)) ∧ (0 ≤ y.nm ∧ y.nm ≤ 255) ∧ (0 ≤ y.nd ∧ y.nd ≤ 255) ∧ ∀ j, 0 ≤ y.td j ∧ y.td j ≤ 255

theorem five_of {α : Type} {l : List α} (h : l.length = 5) : ∃ a b c d e, l = [a, b, c, d, e] := by
  match l, h with
  | [a, b, c, d, e], _ => exact ⟨a, b, c, d, e, rfl⟩

theorem proc_of {a : Addr} {cs : List Value} {fuel : Nat} {x : DataW H × List MemPlace} (hc : W.cells? 0 a 5 = some cs) (h : DataW.trod enc Yba.prog W 0 (fun _ => true) true fuel 52 cs = some x) : ∃ y : Proc1, y.At W a := by
  have hwf : ∀ q : Int, (Lit.int .u8 q).wf = true → 0 ≤ q ∧ q ≤ 255 := by
    intro q hq
    simp [Lit.wf, IntKind.min, IntKind.max, IntKind.signed, IntKind.bits] at hq
    omega
  obtain ⟨_, hlen, hcell⟩ := World.cells?_some hc
  obtain ⟨xs, k, hk, hxy, _, hxl, hf⟩ := DataW.trod_struct Yba.underlying52 h
  have c5 : Yba.prog.cellsOf 5 = 1 := by kernel_rfl
  have c3 : Yba.prog.cellsOf 3 = 1 := by kernel_rfl
  have c4 : Yba.prog.cellsOf 4 = 1 := by kernel_rfl
  have c37 : Yba.prog.cellsOf 37 = 1 := by kernel_rfl
  have hxl' : xs.length = 5 := hxl
  clear hxl hxy
  obtain ⟨y0, y1, y2, y3, y4, rfl⟩ := five_of hxl'
  obtain ⟨v0, v1, v2, v3, v4, rfl⟩ := five_of hlen
  · skip
    have g0 := hf 0 _ rfl
    have g1 := hf 1 _ rfl
    have g2 := hf 2 _ rfl
    have g3 := hf 3 _ rfl
    have g4 := hf 4 _ rfl
    simp [c5, c3, c4, c37] at g0 g1 g2 g3 g4
    obtain ⟨nm, e0, _, w0⟩ := DataW.trod_int Yba.underlying5 g0
    obtain ⟨ln, e1, _, w1⟩ := DataW.trod_int Yba.underlying3 g1
    obtain ⟨wt, e2, _⟩ := DataW.trod_bool Yba.underlying4 g2
    obtain ⟨nd, e3, _, w3⟩ := DataW.trod_int Yba.underlying5 g3
    obtain ⟨ta, tl, tc, td, e4, hin, htd⟩ := bytes_of g4
    simp at e0 e1 e2 e3 e4
    subst e0 e1 e2 e3 e4
    have h0 := hcell 0 (by omega)
    have h1 := hcell 1 (by omega)
    have h2 := hcell 2 (by omega)
    have h3 := hcell 3 (by omega)
    have h4 := hcell 4 (by omega)
    exact ⟨⟨nm, ln, wt, nd, ta, tl, tc, td⟩, by simpa [Addr.add] using h0, h1, h2, h3, h4, hin, hwf _ w0, hwf _ w3, htd⟩

/-- A slice of processes that came in. -/
theorem inProcs_of {a : Option Addr} {n c : Nat} {d : DataW H} {p : List MemPlace} (h : DataW.Trod enc Yba.prog W 0 (fun _ => true) true 36 (.slice a n c) d p) :
    ∃ q : Procs, InProcs W a n q := by
  obtain ⟨fuel, hf⟩ := h
  have c52 : Yba.prog.cellsOf 52 = 5 := by kernel_rfl
  rcases open_slice Yba.underlying36 hf with ⟨hcs, _⟩ | ⟨x, l, c', m, k, D, Pl, hcs, _, hl, hm, hmm, _, hr⟩
  · simp [Value.cells] at hcs
    obtain ⟨rfl, rfl, rfl⟩ := hcs
    exact ⟨⟨fun _ => 0, fun _ => 0, fun _ => false, fun _ => 0, fun _ => none, fun _ => 0, fun _ => 0, fun _ _ => 0⟩, .inl rfl, fun i hi => by omega, fun _ => ⟨by simp, by simp⟩, fun _ => ⟨by simp, by simp⟩, fun _ _ => ⟨by simp, by simp⟩⟩
  · simp [Value.cells] at hcs
    obtain ⟨rfl, rfl, rfl⟩ := hcs
    simp only [if_true] at hmm
    subst hmm
    rw [c52] at hr
    have each : ∀ i, i < m → ∃ y : Proc1, y.At W (x.add (i * 5)) := by
      intro i hi
      obtain ⟨cs, h1, h2⟩ := hr i hi
      exact proc_of h1 h2
    haveI : Inhabited Proc1 := ⟨⟨0, 0, false, 0, none, 0, 0, fun _ => 0⟩⟩
    obtain ⟨y, hy⟩ := choose_lt each
    refine ⟨⟨fun i => if i < n then (y i).nm else 0, fun i => (y i).ln, fun i => (y i).wt, fun i => if i < n then (y i).nd else 0, fun i => (y i).ta, fun i => (y i).tl, fun i => (y i).tc, fun i j => if i < n then (y i).td j else 0⟩, ?_, fun i hi => ?_, fun i => ?_, fun i => ?_, fun i j => ?_⟩
    · by_cases hn : n = 0
      · exact .inl hn
      obtain ⟨b, o, sp⟩ := x
      have hsp : sp = none := by simpa [Addr.add] using World.cell?_spot (hy 0 (by omega)).1
      subst hsp
      refine .inr ⟨b, o, rfl, World.block_lt_of_cell? W _ (hy 0 (by omega)).1, fun i hi => ?_⟩
      obtain ⟨h0, h1, h2, h3, h4, _⟩ := hy i (by omega)
      rw [Addr.add_lit] at h0 h1 h2 h3 h4
      rw [Addr.add_lit] at h1 h2 h3 h4
      simp only [hi, if_true]
      exact ⟨h0, h1, h2, h3, h4⟩
    · obtain ⟨_, _, _, _, _, h5, _⟩ := hy i (by omega)
      simpa only [hi, if_true] using h5
    · by_cases hi : i < n
      · simpa only [hi, if_true] using (hy i (by omega)).2.2.2.2.2.2.1
      · simp [hi]
    · by_cases hi : i < n
      · simpa only [hi, if_true] using (hy i (by omega)).2.2.2.2.2.2.2.1
      · simp [hi]
    · by_cases hi : i < n
      · simpa only [hi, if_true] using (hy i (by omega)).2.2.2.2.2.2.2.2 j
      · simp [hi]

end
end Go.Proofs.Ybulkaqbo
