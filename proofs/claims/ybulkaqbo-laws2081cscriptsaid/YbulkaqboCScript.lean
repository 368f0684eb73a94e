import Derived.Test.YbulkaqboScr3
import Derived.Test.YbulkaqboAArgs
import Derived.Deep.SlicePairs
namespace Go.Proofs.Ybulkaqbo
open Go.RowKit Go.ChangeShapes Go.WideShapes Go.ChangeAt Go.Deep

/-- A slice of structs of two bytes that came in. -/
theorem inOps_of {H : Type} {enc : TypeId × Value → H} {W : World} {a : Option Addr} {n c : Nat} {d : DataW H} {p : List MemPlace} (h : DataW.Trod enc Yba.prog W 0 (fun _ => true) true 72 (.slice a n c) d p) :
    ∃ P Q, InOps W a n P Q := by
  obtain ⟨fuel, hf⟩ := h
  rcases open_slice_pairs Yba.underlying72 Yba.underlying74 (by kernel_rfl) rfl rfl (by kernel_rfl) (by kernel_rfl) hf with ⟨hcs, _⟩ | ⟨x, l, c', m, k, V0, V1, D0, D1, P0, P1, hcs, _, hl, hm, hmm, _, hr⟩
  · simp [Value.cells] at hcs
    obtain ⟨rfl, rfl, rfl⟩ := hcs
    exact ⟨fun _ => 0, fun _ => 0, .inl rfl⟩
  · simp [Value.cells] at hcs
    obtain ⟨rfl, rfl, rfl⟩ := hcs
    simp only [if_true] at hmm
    subst hmm
    have hwf : ∀ q : Int, (Lit.int .u8 q).wf = true → 0 ≤ q ∧ q ≤ 255 := by
      intro q hq
      simp [Lit.wf, IntKind.min, IntKind.max, IntKind.signed, IntKind.bits] at hq
      omega
    have each : ∀ i, i < m → ∃ y : Int × Int, V0 i = .int .u8 y.1 ∧ V1 i = .int .u8 y.2 ∧ 0 ≤ y.1 ∧ y.1 ≤ 255 ∧ 0 ≤ y.2 ∧ y.2 ≤ 255 := by
      intro i hi
      obtain ⟨_, _, t0, t1⟩ := hr i hi
      obtain ⟨p0, e0, _, w0⟩ := DataW.trod_int Yba.underlying5 t0
      obtain ⟨p1, e1, _, w1⟩ := DataW.trod_int Yba.underlying5 t1
      have := hwf _ w0
      have := hwf _ w1
      simp at e0 e1
      exact ⟨(p0, p1), e0, e1, by omega, by omega, by omega, by omega⟩
    obtain ⟨y, hy⟩ := choose_lt each
    refine ⟨fun i => (y i).1, fun i => (y i).2, ?_⟩
    by_cases hn : n = 0
    · exact .inl hn
    obtain ⟨b, o, sp⟩ := x
    have hsp : sp = none := by simpa [Addr.add] using World.cell?_spot (hr 0 (by omega)).1
    subst hsp
    refine .inr ⟨b, o, rfl, World.block_lt_of_cell? W _ (hr 0 (by omega)).1, fun i hi => ?_⟩
    obtain ⟨c0, c1, _, _⟩ := hr i (by omega)
    obtain ⟨e0, e1, b0, b1, b2, b3⟩ := hy i (by omega)
    rw [Addr.add_lit, e0] at c0
    rw [Addr.add_lit, e1] at c1
    exact ⟨c0, c1, b0, b1, b2, b3⟩

set_option maxRecDepth 100000 in
theorem cscript_lifted (os : Os) (started : os.Started) (H : Type) (enc : TypeId × Value → H) :
    ReturnsInHanded {} Yba.checked os 8 .any (Rows.lawS2081CScriptSpec.pre6 enc Yba.prog Yba.f8 Rows.lawS2081CScriptRow.domain false) (Rows.lawS2081CScriptSpec.post enc Yba.prog Yba.f8 false true false false) := by
  refine returnsInHanded_of_change (C := Yba.checked) aown started (by kernel_rfl) Yba.func8
    (ChangeSpec.witness6 (enc := enc) (C := Yba.checked) false ⟨#[], #[.slice none 0 0], []⟩ 8 (by kernel_rfl) (by kernel_rfl) (by kernel_rfl) (by kernel_rfl)) ?_
  intro W base args ds gs before hval0 hW hcnd _
  have hval : ∀ (j : Nat) t v, Yba.f8.params[j]? = some t → args[j]? = some v → Value.okWide Yba.prog W .any base t v := hval0
  have hW' := hW
  obtain ⟨p, q, hA0, hV, rfl, hfz, hnd⟩ := hW
  have hA : DataW.TrodAll enc Yba.prog W 0 (fun _ => true) true Yba.f8.params.toList args.toList ds p := hA0
  rw [Yba.params8] at hA hval
  obtain ⟨v0, vs0, d0, ds0, p0, q0, hargs, rfl, rfl, h0, r0⟩ := trodAll_cons hA
  obtain ⟨rfl, rfl, rfl⟩ := trodAll_nil r0
  obtain rfl : args = #[v0] := by cases args; simp_all
  obtain ⟨rfl, rfl⟩ := trodVars_none hV
  obtain ⟨a0, n0, c0, rfl⟩ := okWide_slice Yba.underlying72 (hval 0 72 v0 rfl rfl)
  have lt0 : ∀ x ∈ p0, x.block < W.heap.size := by obtain ⟨m, hm⟩ := h0; exact DataW.trod_lt m _ _ _ hm
  obtain ⟨P, Q, g0⟩ := inOps_of h0
  clear hA0 hval0
  refine (cscript_walk a0 n0 c0 P Q W g0).mono fun e W' ⟨he, bel⟩ => ?_
  subst he
  exact ⟨_, rfl, _, _, _, [], _, [], hW', trodAll_mk1 (shut_bool Yba.underlying4 _), (trodAll_cons_mk (Below.trod alaidOut (by kernel_rfl) (of_decide_eq_true (by kernel_rfl)) h0 bel lt0) trodAll_mk0), rfl, bel.frame _, fun h => by cases h⟩

theorem cscript_proved : Rows.LawS2081CScriptSaid :=
  OpenClaim.holds_of_wide 8 Yba.f8 rfl rfl rfl rfl rfl rfl rfl ⟨rfl, rfl, rfl, rfl, rfl⟩ rfl rfl rfl rfl rfl (by kernel_rfl) Yba.func8 (by kernel_rfl)
    (of_decide_eq_true (by kernel_rfl)) (by unfold Func.isWrapper; first | (rw [if_pos (by decide +kernel)]; kernel_rfl) | (rw [if_neg (by decide +kernel)]; exact ⟨rfl, rfl⟩))
    (fun os started H enc _ => cscript_lifted os started H enc)
end Go.Proofs.Ybulkaqbo
