import Derived.Test.YbulkaqboA2
import Derived.ProofKit
import Derived.OpenShut
import Derived.ShutString
import Derived.ChangeOld
import Derived.Deep.Matrix
namespace Go.Proofs.Ybulkaqbo
open Go.RowKit Go.ChangeShapes Go.WideShapes Go.ChangeAt Go.Deep

theorem aown : ownKnob Yba.prog.godebug = none := by kernel_rfl
theorem alaidOut : laidOutB Yba.prog = true := by kernel_rfl

/-- A slice of int that came in, as the walks want it. -/
theorem in1_of_ints {H : Type} {enc : TypeId × Value → H} {W : World} {a : Option Addr} {n c : Nat} {d : DataW H} {p : List MemPlace} (h : DataW.Trod enc Yba.prog W 0 (fun _ => true) true 22 (.slice a n c) d p) :
    ∃ zs : Nat → Int, In1 W a n (fun i => .int .i64 (zs i)) := by
  obtain ⟨fuel, hf⟩ := h
  rcases open_ints Yba.underlying22 Yba.underlying3 (by kernel_rfl) hf with ⟨hcs, _⟩ | ⟨x, l, c', zs, hcs, _, hl, hm, hz, _, hcell, hwz⟩
  · simp [Value.cells] at hcs
    obtain ⟨rfl, rfl, rfl⟩ := hcs
    exact ⟨fun _ => 0, .inl rfl⟩
  · simp [Value.cells] at hcs
    obtain ⟨rfl, rfl, rfl⟩ := hcs
    simp only [if_true] at hz
    refine ⟨fun i => zs.getD i 0, ?_⟩
    by_cases hn : n = 0
    · exact .inl hn
    obtain ⟨b, o, sp⟩ := x
    have hsp : sp = none := by simpa [Addr.add] using World.cell?_spot (hcell 0 (by omega))
    subst hsp
    refine .inr ⟨b, o, rfl, ?_, fun i hi => ?_⟩
    · exact World.block_lt_of_cell? W _ (hcell 0 (by omega))
    · have := hcell i (by omega)
      rwa [Addr.add_lit] at this

/-- A slice of slices of bytes that came in. -/
theorem inRows_of {H : Type} {enc : TypeId × Value → H} {W : World} {a : Option Addr} {n c : Nat} {d : DataW H} {p : List MemPlace} (h : DataW.Trod enc Yba.prog W 0 (fun _ => true) true 23 (.slice a n c) d p) :
    ∃ A L C D, InRows W a n A L C D := by
  obtain ⟨fuel, hf⟩ := h
  rcases open_int_rows Yba.underlying23 Yba.underlying37 Yba.underlying5 (by kernel_rfl) (by kernel_rfl) hf with ⟨hcs, _⟩ | ⟨x, l, c', A, L, C, Z, hcs, _, hl, hm, _, hr⟩
  · simp [Value.cells] at hcs
    obtain ⟨rfl, rfl, rfl⟩ := hcs
    exact ⟨fun _ => none, fun _ => 0, fun _ => 0, fun _ _ => 0, .inl rfl, fun i hi => by omega, fun _ _ => by omega⟩
  · simp [Value.cells] at hcs
    obtain ⟨rfl, rfl, rfl⟩ := hcs
    have hwf : ∀ q : Int, (Lit.int .u8 q).wf = true → 0 ≤ q ∧ q ≤ 255 := by
      intro q hq
      simp [Lit.wf, IntKind.min, IntKind.max, IntKind.signed, IntKind.bits] at hq
      omega
    refine ⟨A, L, C, fun i j => if i < n then (Z i).getD j 0 else 0, ?_, fun i hi => ?_, fun i j => ?_⟩
    · by_cases hn : n = 0
      · exact .inl hn
      obtain ⟨b, o, sp⟩ := x
      have hsp : sp = none := by simpa [Addr.add] using World.cell?_spot (hr 0 (by omega)).1
      subst hsp
      refine .inr ⟨b, o, rfl, World.block_lt_of_cell? W _ (hr 0 (by omega)).1, fun i hi => ?_⟩
      have := (hr i (by omega)).1
      rwa [Addr.add_lit] at this
    · obtain ⟨_, h1, h2, h3, h4, h5, h6⟩ := hr i (by omega)
      by_cases hn : L i = 0
      · exact .inl hn
      cases hA : A i with
      | none => have := h5 hA; omega
      | some x' =>
        have hcl := (h6 x' hA).2
        obtain ⟨b, o, sp⟩ := x'
        have hsp : sp = none := by simpa [Addr.add] using World.cell?_spot (hcl 0 (by omega))
        subst hsp
        refine .inr ⟨b, o, rfl, World.block_lt_of_cell? W _ (hcl 0 (by omega)), fun j hj => ?_⟩
        have := hcl j (by omega)
        rw [Addr.add_lit] at this
        simpa [hi] using this
    · by_cases hi : i < n
      · obtain ⟨_, h1, h2, h3, h4, h5, h6⟩ := hr i (by omega)
        by_cases hj : j < (Z i).length
        · have := hwf _ (h4 ((Z i)[j]) (List.getElem_mem hj))
          simpa [hi, hj] using this
        · simp [hi, hj]
      · simp [hi]
end Go.Proofs.Ybulkaqbo
