import Derived.Test.YbulkaqboASteps
import Derived.Test.YbulkaqboAArgs
namespace Go.Proofs.Ybulkaqbo
open Go.RowKit

/-- How many of the first k are at least t. -/
def cnt (zs : List Int) (t : Int) : Nat → Nat
  | 0 => 0
  | k + 1 => cnt zs t k + if t ≤ zs.getD k 0 then 1 else 0

theorem cnt_lb (zs : List Int) (t : Int) : cnt zs t zs.length + lb zs t = zs.length := by
  have key : ∀ k, k ≤ zs.length → cnt zs t k + lb (zs.take k) t = k := by
    intro k
    induction k with
    | zero => intro _; simp [cnt, lb]
    | succ k ih =>
      intro hk
      have := ih (by omega)
      rw [List.take_succ_eq_append_getElem (by omega)]
      simp only [cnt, lb, List.filter_append, List.length_append] at this ⊢
      have hg : zs.getD k 0 = zs[k] := by simp [show k < zs.length by omega]
      rw [hg]
      by_cases h : t ≤ zs[k]
      · have h' : ¬ zs[k] < t := by omega
        simp [h, h']; omega
      · have h' : zs[k] < t := by omega
        simp [h, h']; omega
  have := key zs.length (Nat.le_refl _)
  rwa [List.take_length] at this

theorem cnt_le (zs : List Int) (t : Int) (k : Nat) : cnt zs t k ≤ k := by
  induction k with
  | zero => simp [cnt]
  | succ k ih => simp only [cnt]; split <;> omega

/-- What the model reads. -/
structure FcAt (fb gat gnd n : Nat) (zs : Nat → Int) (A : Nat → Option Addr) (C : Nat → Nat) (Z : Nat → List Int) (w : World) : Prop where
  f0 : w.cell? ⟨fb, 0, none⟩ = some (.slice (some ⟨gat, 0, none⟩) n n)
  f2 : w.cell? ⟨fb, 2, none⟩ = some (.slice (some ⟨gnd, 0, none⟩) n n)
  need : ∀ i, i < n → w.cell? ⟨gnd, i, none⟩ = some (.int .i64 (zs i))
  ats : ∀ i, i < n → w.cell? ⟨gat, i, none⟩ = some (.slice (A i) (Z i).length (C i))
  rows : ∀ i, i < n → In1 w (A i) (Z i).length (fun j => .int .i32 ((Z i).getD j 0))

theorem fcAt_of {B : Nat} {w1 w2 : World} {fb n : Nat} {zs : Nat → Int} {Z : Nat → List Int} (hF : Fc B w1 fb n zs Z) (hb : Below w1.heap.size w1 w2) : ∃ gat gnd A C, FcAt fb gat gnd n zs A C Z w2 := by
  obtain ⟨gat, gnd, A, C, hfb, hA, hnd, _, _⟩ := hF
  have hfl : fb < w1.heap.size := (Array.getElem?_eq_some_iff.1 hfb).1
  have hnl : gnd < w1.heap.size := (Array.getElem?_eq_some_iff.1 hnd).1
  refine ⟨gat, gnd, A, C, ?_, ?_, fun i hi => ?_, fun i hi => ?_, fun i hi => (hA.own i hi).in1.below hb⟩
  · rw [hb.cell (p := ⟨fb, 0, none⟩) hfl]
    simp [World.cell?, hfb]
  · rw [hb.cell (p := ⟨fb, 2, none⟩) hfl]
    simp [World.cell?, hfb]
  · rw [hb.cell (p := ⟨gnd, i, none⟩) hnl]
    simp [World.cell?, hnd, hi]
  · rw [hb.cell (p := ⟨gat, i, none⟩) hA.lt]
    exact hA.cell hi

def moR (n : Nat) (zs : Nat → Int) (Z : Nat → List Int) (t : Int) (w : World) (e : Ending) (w' : World) : Prop := e = .returned (.bool (ccB n zs Z t)) ∧ w' = w

set_option maxHeartbeats 1600000 in
set_option maxRecDepth 100000 in
/-- zzs2081amodel. -/
theorem model_any (fb gat gnd n : Nat) (zs : Nat → Int) (A : Nat → Option Addr) (C : Nat → Nat) (Z : Nat → List Int) (t : Int) (w : World) (hF : FcAt fb gat gnd n zs A C Z w) (hlen : ∀ i, i < n → (Z i).length ≤ 1024) (hn : n ≤ 1024) :
    Calls Yba.prog 12 #[.pointer (some ⟨fb, 0, none⟩), .int .i32 t] w (moR n zs Z t w) := by
  have hf0 := hF.f0
  have hf2 := hF.f2
  have HF : Hid (FcAt fb gat gnd n zs A C Z w) := hF
  have HL : Hid (∀ i, i < n → (Z i).length ≤ 1024) := hlen
  clear hF hlen
  go_enter Yba.func12, Yba.ntmps12
  go_wp2_with fail
  go_loop [5] (fun x => ∃ k : Nat, k ≤ n ∧ x = .int .i64 k ∧ ∀ i, i < k → zs i ≤ 0 ∨ zs i ≤ ((Z i).length : Int) - lb (Z i) t) (fun x => n - (intOf x).toNat)
  case atStart => exact ⟨0, Nat.zero_le _, rfl, by omega⟩
  case round =>
    obtain ⟨k, hk, rfl, hok⟩ := hrel
    have HK : Hid (∀ i, i < k → zs i ≤ 0 ∨ zs i ≤ ((Z i).length : Int) - lb (Z i) t) := hok
    clear hok
    by_cases hlt : k < n
    · have hcn := HF.out.need k hlt
      have hca := HF.out.ats k hlt
      by_cases hz : zs k ≤ 0
      · go_wp2_with fail
        go_round
        case rel => exact ⟨k + 1, by omega, by go_num, fun i hi => by
          by_cases e : i = k
          · subst e; exact .inl hz
          · exact HK.out i (by omega)⟩
        case measure => simp [intOf]; omega
      · have HI : Hid (In1 w (A k) (Z k).length (fun j => .int .i32 ((Z k).getD j 0))) := HF.out.rows k hlt
        have hl := HL.out k hlt
        have HC : Hid (cnt (Z k) t (Z k).length + lb (Z k) t = (Z k).length) := cnt_lb (Z k) t
        generalize A k = a2 at *
        go_wp2_with fail
        go_loop [6, 34] (fun c j => ∃ q : Nat, q ≤ (Z k).length ∧ j = .int .i64 q ∧ c = .int .i64 (cnt (Z k) t q)) (fun _ j => (Z k).length - (intOf j).toNat)
        case atStart => exact ⟨0, Nat.zero_le _, rfl, rfl⟩
        case round =>
          obtain ⟨q, hq, rfl, rfl⟩ := hrel
          have hcl := cnt_le (Z k) t q
          by_cases hql : q < (Z k).length
          · obtain ⟨b, o, rfl, _, hc⟩ : ∃ b o, a2 = some ⟨b, o, none⟩ ∧ b < w.heap.size ∧ ∀ j, j < (Z k).length → w.cell? ⟨b, o + j, none⟩ = some (.int .i32 ((Z k).getD j 0)) := by
              rcases HI.out with h | h
              · omega
              · exact h
            have hcq := hc q hql
            clear hc
            by_cases hge : t ≤ (Z k)[q]
            · have HQ : Hid (cnt (Z k) t (q + 1) = cnt (Z k) t q + 1) := by show _ = _; simp [cnt, hql, hge]
              go_wp2_with fail
              go_round
              case rel => exact ⟨q + 1, by omega, by go_num, by rw [HQ.out]; go_num⟩
              case measure => simp [intOf]; omega
            · have HQ : Hid (cnt (Z k) t (q + 1) = cnt (Z k) t q) := by show _ = _; simp [cnt, hql, hge]
              go_wp2_with fail
              go_round
              case rel => exact ⟨q + 1, by omega, by go_num, by rw [HQ.out]⟩
              case measure => simp [intOf]; omega
          · obtain rfl : q = (Z k).length := by omega
            by_cases hcmp : (cnt (Z k) t (Z k).length : Int) < zs k
            · go_wp2_with fail
              go_ret
              exact ⟨by rw [ccB_false hlt (by omega) (by have := HC.out; omega)]; rfl, rfl⟩
            · go_wp2_with fail
              go_round
              case rel => exact ⟨k + 1, by omega, by go_num, fun i hi => by
                by_cases e : i = k
                · subst e; exact .inr (by have := HC.out; omega)
                · exact HK.out i (by omega)⟩
              case measure => simp [intOf]; omega
    · go_wp2_with fail
      go_ret
      exact ⟨by rw [ccB_true (fun i hi => HK.out i (by omega))]; rfl, rfl⟩

set_option maxHeartbeats 1600000 in
set_option maxRecDepth 100000 in
/-- LawS2081AAnswer returns true. -/
theorem aanswer_walk (a0 : Option Addr) (n c0 : Nat) (zs : Nat → Int) (a1 : Option Addr) (m c1 : Nat) (A1 : Nat → Option Addr) (L C1 : Nat → Nat) (D : Nat → Nat → Int) (t s : Int) (w : World)
    (h0 : In1 w a0 n (fun i => .int .i64 (zs i))) (h1 : InRows w a1 m A1 L C1 D) :
    Calls Yba.prog 3 #[.slice a0 n c0, .slice a1 m c1, .int .i32 t, .int .i64 s] w fun e w' => e = .returned (.bool true) ∧ Below w.heap.size w w' := by
  go_enter Yba.func3, Yba.ntmps3
  go_wp2_with fail
  refine (aok_any a0 n c0 a1 m c1 A1 L C1 w h1.outer).mono ?_
  rintro e w' ⟨b, rfl, rfl, hok⟩
  cases b with
  | false =>
    clear hok
    go_wp2_with fail
    go_ret
    exact ⟨rfl, Below.refl _ _⟩
  | true =>
    obtain ⟨hn, hm, hL⟩ := hok rfl
    clear hok
    have HL : Hid (∀ i, i < m → L i ≤ 1024) := hL
    have H0 : Hid (In1 w' a0 n (fun i => .int .i64 (zs i))) := h0
    have H1 : Hid (InRows w' a1 m A1 L C1 D) := h1
    clear h0 h1 hL
    go_wp2_with fail
    refine (build_any a0 n c0 zs a1 m c1 A1 L C1 D w' H0.out H1.out hn hm HL.out).mono ?_
    rintro e w1 ⟨fb, rfl, hF, hb1⟩
    have HF : Hid (Fc w'.heap.size w1 fb n zs (zk m L D n)) := hF
    clear hF
    go_wp2_with fail
    refine (canComplete_any w'.heap.size w1 fb n zs (zk m L D n) t s HF.out (fun i _ => zk_up m L D n H1.out.fits i) (fun i _ => zk_len m L D n HL.out i) hn).mono ?_
    rintro e w2 ⟨rfl, hc2, hb2⟩
    have hb : Below w'.heap.size w' w2 := hb1.trans (hb2.mono hb1.size)
    obtain ⟨gat, gnd, A, C, hK⟩ := fcAt_of HF.out hb2
    have HK : Hid (FcAt fb gat gnd n zs A C (zk m L D n) w2) := hK
    clear hK hc2
    go_wp2_with fail
    refine (model_any fb gat gnd n zs A C (zk m L D n) t w2 HK.out (fun i _ => zk_len m L D n HL.out i) hn).mono ?_
    rintro e w3 ⟨rfl, rfl⟩
    generalize ccB n zs (zk m L D n) t = r at *
    go_wp2_with fail
    go_ret
    exact ⟨rfl, hb⟩

open Go.ChangeShapes Go.WideShapes Go.ChangeAt

set_option maxRecDepth 100000 in
theorem aanswer_lifted (os : Os) (started : os.Started) (H : Type) (enc : TypeId × Value → H) :
    ReturnsInHanded {} Yba.checked os 3 .any (Rows.lawS2081AAnswerSpec.pre6 enc Yba.prog Yba.f3 Rows.lawS2081AAnswerRow.domain false) (Rows.lawS2081AAnswerSpec.post enc Yba.prog Yba.f3 false true false false) := by
  refine returnsInHanded_of_change (C := Yba.checked) aown started (by kernel_rfl) Yba.func3
    (ChangeSpec.witness6 (enc := enc) (C := Yba.checked) false ⟨#[], #[.slice none 0 0, .slice none 0 0, .int .i32 0, .int .i64 0], []⟩ 8 (by kernel_rfl) (by kernel_rfl) (by kernel_rfl) (by kernel_rfl)) ?_
  intro W base args ds gs before hval0 hW hcnd _
  have hval : ∀ (j : Nat) t v, Yba.f3.params[j]? = some t → args[j]? = some v → Value.okWide Yba.prog W .any base t v := hval0
  have hW' := hW
  obtain ⟨p, q, hA0, hV, rfl, hfz, hnd⟩ := hW
  have hA : DataW.TrodAll enc Yba.prog W 0 (fun _ => true) true Yba.f3.params.toList args.toList ds p := hA0
  rw [Yba.params3] at hA hval
  obtain ⟨v0, vs0, d0, ds0, p0, q0, hargs, rfl, rfl, h0, r0⟩ := trodAll_cons hA
  obtain ⟨v1, vs1, d1, ds1, p1, q1, rfl, rfl, rfl, h1, r1⟩ := trodAll_cons r0
  obtain ⟨v2, vs2, d2, ds2, p2, q2, rfl, rfl, rfl, h2, r2⟩ := trodAll_cons r1
  obtain ⟨v3, vs3, d3, ds3, p3, q3, rfl, rfl, rfl, h3, r3⟩ := trodAll_cons r2
  obtain ⟨rfl, rfl, rfl⟩ := trodAll_nil r3
  obtain rfl : args = #[v0, v1, v2, v3] := by cases args; simp_all
  obtain ⟨rfl, rfl⟩ := trodVars_none hV
  obtain ⟨a0, n0, c0, rfl⟩ := okWide_slice Yba.underlying22 (hval 0 22 v0 rfl rfl)
  obtain ⟨a1, n1, c1, rfl⟩ := okWide_slice Yba.underlying23 (hval 1 23 v1 rfl rfl)
  obtain ⟨t, rfl, rfl, rfl, w2⟩ := open_int Yba.underlying21 (hval 2 21 v2 rfl rfl) h2
  obtain ⟨s, rfl, rfl, rfl, w3⟩ := open_int Yba.underlying3 (hval 3 3 v3 rfl rfl) h3
  have lt0 : ∀ x ∈ p0, x.block < W.heap.size := by obtain ⟨m, hm⟩ := h0; exact DataW.trod_lt m _ _ _ hm
  have lt1 : ∀ x ∈ p1, x.block < W.heap.size := by obtain ⟨m, hm⟩ := h1; exact DataW.trod_lt m _ _ _ hm
  obtain ⟨zs, g0⟩ := in1_of_ints h0
  obtain ⟨A, L, C, D, g1⟩ := inRows_of h1
  clear hA0 hval0
  refine (aanswer_walk a0 n0 c0 zs a1 n1 c1 A L C D t s W g0 g1).mono fun e W' ⟨he, bel⟩ => ?_
  subst he
  exact ⟨_, rfl, _, _, _, [], _, [], hW', trodAll_mk1 (shut_bool Yba.underlying4 _), (trodAll_cons_mk (Below.trod alaidOut (by kernel_rfl) (of_decide_eq_true (by kernel_rfl)) h0 bel lt0) (trodAll_cons_mk (Below.trod alaidOut (by kernel_rfl) (of_decide_eq_true (by kernel_rfl)) h1 bel lt1) (trodAll_cons_mk (shut_int Yba.underlying21 w2) (trodAll_cons_mk (shut_int Yba.underlying3 w3) trodAll_mk0)))), rfl, bel.frame _, fun h => by cases h⟩

theorem aanswer_proved : Rows.LawS2081AAnswerSaid :=
  OpenClaim.holds_of_wide 3 Yba.f3 rfl rfl rfl rfl rfl rfl rfl ⟨rfl, rfl, rfl, rfl, rfl⟩ rfl rfl rfl rfl rfl (by kernel_rfl) Yba.func3 (by kernel_rfl)
    (of_decide_eq_true (by kernel_rfl)) (by unfold Func.isWrapper; first | (rw [if_pos (by decide +kernel)]; kernel_rfl) | (rw [if_neg (by decide +kernel)]; exact ⟨rfl, rfl⟩))
    (fun os started H enc _ => aanswer_lifted os started H enc)
end Go.Proofs.Ybulkaqbo
