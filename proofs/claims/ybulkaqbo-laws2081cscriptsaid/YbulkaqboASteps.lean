import Derived.Test.YbulkaqboA3
namespace Go.Proofs.Ybulkaqbo
open Go.RowKit

theorem zk_up (m : Nat) (L : Nat → Nat) (D : Nat → Nat → Int) (k : Nat) (hD : ∀ i j, 0 ≤ D i j ∧ D i j ≤ 255) (i : Nat) : Up (zk m L D k i) := by
  by_cases h : i < k ∧ i < m
  · rw [zk, if_pos h]; exact pre_up _ (hD i) _
  · rw [zk, if_neg h]; intro a b _ hb; simp at hb
theorem zk_len (m : Nat) (L : Nat → Nat) (D : Nat → Nat → Int) (k : Nat) (hL : ∀ i, i < m → L i ≤ 1024) (i : Nat) : (zk m L D k i).length ≤ 1024 := by
  by_cases h : i < k ∧ i < m
  · rw [zk, if_pos h, pre_length]; exact hL i h.2
  · rw [zk, if_neg h]; simp

/-- What the last loop reads. -/
structure Held (fb gnd n : Nat) (zs : Nat → Int) (a0 : Option Addr) (w : World) : Prop where
  need : w.cell? ⟨fb, 2, none⟩ = some (.slice (some ⟨gnd, 0, none⟩) n n)
  row : ∀ i, i < n → w.cell? ⟨gnd, i, none⟩ = some (.int .i64 (zs i))
  arg : In1 w a0 n (fun i => .int .i64 (zs i))

theorem Held.at {fb gnd n : Nat} {zs : Nat → Int} {a0 : Option Addr} {w : World} (h : Held fb gnd n zs a0 w) (k : Nat) (hk : k < n) :
    ∃ b o, a0 = some ⟨b, o, none⟩ ∧ w.cell? ⟨fb, 2, none⟩ = some (.slice (some ⟨gnd, 0, none⟩) n n) ∧ w.cell? ⟨gnd, k, none⟩ = some (.int .i64 (zs k)) ∧ w.cell? ⟨b, o + k, none⟩ = some (.int .i64 (zs k)) := by
  rcases h.arg with h' | ⟨b, o, ha, _, hc⟩
  · omega
  · exact ⟨b, o, ha, h.need, h.row k hk, hc k hk⟩

theorem below_draws {B : Nat} {a w : World} (h : Below B a w) (n : Nat) : Below B a (w.drewN n) := h.trans ⟨rfl, rfl, rfl, Nat.le_refl _, fun _ _ => rfl⟩
theorem Held.draws {fb gnd n : Nat} {zs : Nat → Int} {a0 : Option Addr} {w : World} (h : Held fb gnd n zs a0 w) (q : Nat) : Held fb gnd n zs a0 (w.drewN q) := ⟨h.need, h.row, h.arg⟩

theorem held_of {B : Nat} {w1 w2 : World} {fb n : Nat} {zs : Nat → Int} {Z : Nat → List Int} {a0 : Option Addr} (hF : Fc B w1 fb n zs Z) (h0 : In1 w1 a0 n (fun i => .int .i64 (zs i))) (hb : Below w1.heap.size w1 w2) : ∃ gnd, Held fb gnd n zs a0 w2 := by
  obtain ⟨gat, gnd, A, C, hfb, _, hnd, _, _⟩ := hF
  have hfl : fb < w1.heap.size := (Array.getElem?_eq_some_iff.1 hfb).1
  have hnl : gnd < w1.heap.size := (Array.getElem?_eq_some_iff.1 hnd).1
  refine ⟨gnd, ⟨?_, fun i hi => ?_, h0.below hb⟩⟩
  · rw [hb.cell (p := ⟨fb, 2, none⟩) hfl]
    simp [World.cell?, hfb]
  · rw [hb.cell (p := ⟨gnd, i, none⟩) hnl]
    simp [World.cell?, hnd, hi]

set_option maxHeartbeats 1600000 in
set_option maxRecDepth 100000 in
/-- LawS2081ASteps returns true. -/
theorem asteps_walk (a0 : Option Addr) (n c0 : Nat) (zs : Nat → Int) (a1 : Option Addr) (m c1 : Nat) (A1 : Nat → Option Addr) (L C1 : Nat → Nat) (D : Nat → Nat → Int) (t s : Int) (w : World)
    (h0 : In1 w a0 n (fun i => .int .i64 (zs i))) (h1 : InRows w a1 m A1 L C1 D) :
    Calls Yba.prog 4 #[.slice a0 n c0, .slice a1 m c1, .int .i32 t, .int .i64 s] w fun e w' => e = .returned (.bool true) ∧ Below w.heap.size w w' := by
  go_enter Yba.func4, Yba.ntmps4
  go_wp2_with fail
  refine (aok_any a0 n c0 a1 m c1 A1 L C1 w h1.outer).mono ?_
  rintro e w' ⟨b, rfl, rfl, hok⟩
  cases b with
  | false =>
    clear hok
    go_wp2_with fail
    go_ret
    exact ⟨rfl, Below.refl _ _⟩
  | true =>
    obtain ⟨hn, hm, hL⟩ := hok rfl
    clear hok
    have HL : Hid (∀ i, i < m → L i ≤ 1024) := hL
    have H0 : Hid (In1 w' a0 n (fun i => .int .i64 (zs i))) := h0
    have H1 : Hid (InRows w' a1 m A1 L C1 D) := h1
    clear h0 h1 hL
    go_wp2_with fail
    refine (build_any a0 n c0 zs a1 m c1 A1 L C1 D w' H0.out H1.out hn hm HL.out).mono ?_
    rintro e w1 ⟨fb, rfl, hF, hb1⟩
    have HF : Hid (Fc w'.heap.size w1 fb n zs (zk m L D n)) := hF
    clear hF
    go_wp2_with fail
    refine (canComplete_any w'.heap.size w1 fb n zs (zk m L D n) t s HF.out (fun i _ => zk_up m L D n H1.out.fits i) (fun i _ => zk_len m L D n HL.out i) hn).mono ?_
    rintro e w2 ⟨rfl, hc2, hb2⟩
    have hb : Below w'.heap.size w' w2 := hb1.trans (hb2.mono hb1.size)
    obtain ⟨gnd, hK⟩ : ∃ gnd, Held fb gnd n zs a0 w2 := held_of HF.out (H0.out.below hb1) (hb2.mono (Nat.le_refl _))
    have HK : Hid (Held fb gnd n zs a0 w2) := hK
    clear hK
    go_wp2_with fail
    go_loopw [11] (fun x wr => ∃ k : Nat, k ≤ n ∧ x = .int .i64 k ∧ Below w'.heap.size w' wr ∧ Held fb gnd n zs a0 wr) (fun x _ => n - (intOf x).toNat)
    case atStart => exact ⟨0, Nat.zero_le _, rfl, hb, HK.out⟩
    case round =>
      obtain ⟨k, hk, rfl, hbr, hH⟩ := hrel
      clear hc2
      have HH : Hid (Held fb gnd n zs a0 wr) := hH
      by_cases hlt : k < n
      · obtain ⟨b, o, rfl, hf2, hnk, hok⟩ := hH.at k hlt
        clear hH
        go_wp2_with fail
        go_quiet (fail)
        go_wp2_with fail
        go_roundw
        case rel => exact ⟨k + 1, by omega, by go_num, below_draws hbr nq, HH.out.draws nq⟩
        case measure => simp [intOf]; omega
      · clear hH
        go_wp2_with fail
        go_ret
        exact ⟨rfl, hbr⟩
end Go.Proofs.Ybulkaqbo
