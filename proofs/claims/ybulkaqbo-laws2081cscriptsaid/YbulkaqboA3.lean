import Derived.Test.YbulkaqboA2
namespace Go.Proofs.Ybulkaqbo
open Go.RowKit

/-- Every factor that needs more has so many positions from t on. -/
def ccB (n : Nat) (zs : Nat → Int) (Z : Nat → List Int) (t : Int) : Bool := (List.range n).all fun i => decide (zs i ≤ 0) || decide (zs i ≤ ((Z i).length : Int) - lb (Z i) t)

theorem ccB_true {n : Nat} {zs : Nat → Int} {Z : Nat → List Int} {t : Int} (h : ∀ i, i < n → zs i ≤ 0 ∨ zs i ≤ ((Z i).length : Int) - lb (Z i) t) : ccB n zs Z t = true := by
  simp only [ccB, List.all_eq_true, List.mem_range, Bool.or_eq_true, decide_eq_true_eq]
  exact h
theorem ccB_false {n : Nat} {zs : Nat → Int} {Z : Nat → List Int} {t : Int} {i : Nat} (hi : i < n) (h0 : 0 < zs i) (h : ((Z i).length : Int) - lb (Z i) t < zs i) : ccB n zs Z t = false := by
  cases hb : ccB n zs Z t with
  | false => rfl
  | true =>
    simp only [ccB, List.all_eq_true, List.mem_range, Bool.or_eq_true, decide_eq_true_eq] at hb
    rcases hb i hi with h' | h' <;> omega

theorem Own.in1 {w : World} {a : Option Addr} {c : Nat} {zs : List Int} (h : Own w 21 1 a zs.length c (ints zs)) : In1 w a zs.length (fun i => .int .i32 (zs.getD i 0)) := by
  rcases h.shape with ⟨_, h0, _⟩ | ⟨g, cur, rfl, hh, _⟩
  · exact .inl h0
  · refine .inr ⟨g, 0, rfl, (Array.getElem?_eq_some_iff.1 hh).1, fun i hi => ?_⟩
    rw [Nat.zero_add]
    exact h.cell (by simp [ints, hi])

theorem cell_box (w : World) (v : Value) (t : TypeId) : (w.alloc (.cells #[v] t)).cell? ⟨w.heap.size, 0, none⟩ = some v := by
  simp only [World.cell?, heap_alloc_new w (.cells #[v] t)]
  rfl

def ccR (w1 : World) (n : Nat) (zs : Nat → Int) (Z : Nat → List Int) (t s : Int) (e : Ending) (w' : World) : Prop :=
  e = .returned (.bool (ccB n zs Z t)) ∧ w'.cell? ⟨w1.heap.size, 0, none⟩ = some (.int .i64 (wrap64 (s - n))) ∧ Below w1.heap.size w1 w'

set_option maxHeartbeats 1600000 in
set_option maxRecDepth 100000 in
/-- canComplete, over a factorCounts of the call's own and a counter that lies behind it. -/
theorem canComplete_any (B : Nat) (w1 : World) (fb n : Nat) (zs : Nat → Int) (Z : Nat → List Int) (t s : Int) (hF : Fc B w1 fb n zs Z) (hup : ∀ i, i < n → Up (Z i)) (hlen : ∀ i, i < n → (Z i).length ≤ 1024) (hn : n ≤ 1024) :
    Calls Yba.prog 11 #[.pointer (some ⟨fb, 0, none⟩), .int .i32 t, .pointer (some ⟨w1.heap.size, 0, none⟩)] (w1.alloc (.cells #[.int .i64 s] 3)) (ccR w1 n zs Z t s) := by
  obtain ⟨gat, gnd, A, C, hfb, hA, hnd, _, _⟩ := hF
  have hfl : fb < w1.heap.size := (Array.getElem?_eq_some_iff.1 hfb).1
  have hnl : gnd < w1.heap.size := (Array.getElem?_eq_some_iff.1 hnd).1
  have hal := hA.lt
  have hold : ∀ (o : Obj) (b x : Nat), b < w1.heap.size → (w1.alloc o).cell? ⟨b, x, none⟩ = w1.cell? ⟨b, x, none⟩ := fun o b x hb => World.cell?_of_block (Below.heap_alloc w1 o b hb)
  have hcf0 : ∀ o, (w1.alloc o).cell? ⟨fb, 0, none⟩ = some (.slice (some ⟨gat, 0, none⟩) n n) := fun o => (hold o fb 0 hfl).trans (by simp [World.cell?, hfb])
  have hcf2 : ∀ o, (w1.alloc o).cell? ⟨fb, 2, none⟩ = some (.slice (some ⟨gnd, 0, none⟩) n n) := fun o => (hold o fb 2 hfl).trans (by simp [World.cell?, hfb])
  have hcn : ∀ o i, i < n → (w1.alloc o).cell? ⟨gnd, i, none⟩ = some (.int .i64 (zs i)) := fun o i hi => (hold o gnd i hnl).trans (by simp [World.cell?, hnd, hi])
  have hca : ∀ o i, i < n → (w1.alloc o).cell? ⟨gat, i, none⟩ = some (.slice (A i) (Z i).length (C i)) := fun o i hi => (hold o gat i hal).trans (hA.cell hi)
  have HN : Hid (∀ o i, i < n → (w1.alloc o).cell? ⟨gnd, i, none⟩ = some (.int .i64 (zs i))) := hcn
  have HA : Hid (∀ o i, i < n → (w1.alloc o).cell? ⟨gat, i, none⟩ = some (.slice (A i) (Z i).length (C i))) := hca
  have HU : Hid (∀ i, i < n → Up (Z i)) := hup
  have HL : Hid (∀ i, i < n → (Z i).length ≤ 1024) := hlen
  have HO : Hid (At B w1 gat n A C Z) := hA
  clear hcn hca hup hlen hA hold hfb hnd
  go_enter Yba.func11, Yba.ntmps11
  go_wp2
  go_region
  go_wp2
  have hW1 : ((w1.alloc (.cells #[.int .i64 (wrap64 (s - n))] 3)).drew).cell? ⟨w1.heap.size, 0, none⟩ = some (.int .i64 (wrap64 (s - n))) := cell_box w1 _ _
  have hW2 : Below w1.heap.size w1 (w1.alloc (.cells #[.int .i64 (wrap64 (s - n))] 3)).drew := ((Below.refl _ w1).alloc (Nat.le_refl _) _).drew
  have HW : Hid (((w1.alloc (.cells #[.int .i64 (wrap64 (s - n))] 3)).drew).cell? ⟨w1.heap.size, 0, none⟩ = some (.int .i64 (wrap64 (s - n))) ∧ Below w1.heap.size w1 (w1.alloc (.cells #[.int .i64 (wrap64 (s - n))] 3)).drew) := ⟨hW1, hW2⟩
  have HN' : Hid (∀ i, i < n → ((w1.alloc (.cells #[.int .i64 (wrap64 (s - n))] 3)).drew).cell? ⟨gnd, i, none⟩ = some (.int .i64 (zs i))) := fun i hi => HN.out _ i hi
  have HA' : Hid (∀ i, i < n → ((w1.alloc (.cells #[.int .i64 (wrap64 (s - n))] 3)).drew).cell? ⟨gat, i, none⟩ = some (.slice (A i) (Z i).length (C i))) := fun i hi => HA.out _ i hi
  have HI : Hid (∀ i, i < n → In1 ((w1.alloc (.cells #[.int .i64 (wrap64 (s - n))] 3)).drew) (A i) (Z i).length (fun j => .int .i32 ((Z i).getD j 0))) := fun i hi => (HO.out.own i hi).in1.below hW2
  have hf0 : ((w1.alloc (.cells #[.int .i64 (wrap64 (s - n))] 3)).drew).cell? ⟨fb, 0, none⟩ = some (.slice (some ⟨gat, 0, none⟩) n n) := hcf0 _
  clear hW1 hW2 HN HA HO hcf0 hcf2
  generalize (w1.alloc (.cells #[.int .i64 (wrap64 (s - n))] 3)).drew = W at *
  go_loop [26] (fun x => ∃ k : Nat, k ≤ n ∧ x = .int .i64 k ∧ ∀ i, i < k → zs i ≤ 0 ∨ zs i ≤ ((Z i).length : Int) - lb (Z i) t) (fun x => n - (intOf x).toNat)
  case atStart => exact ⟨0, Nat.zero_le _, rfl, by omega⟩
  case round =>
    obtain ⟨k, hk, rfl, hok⟩ := hrel
    have HK : Hid (∀ i, i < k → zs i ≤ 0 ∨ zs i ≤ ((Z i).length : Int) - lb (Z i) t) := hok
    clear hok
    by_cases hlt : k < n
    · have hcn := HN'.out k hlt
      have hca := HA'.out k hlt
      by_cases hz : zs k ≤ 0
      · go_wp2_with fail
        go_round
        case rel => exact ⟨k + 1, by omega, by go_num, fun i hi => by
          by_cases e : i = k
          · subst e; exact .inl hz
          · exact HK.out i (by omega)⟩
        case measure => simp [intOf]; omega
      · have hin := HI.out k hlt
        have hl := HL.out k hlt
        have hll := lb_le (Z k) t
        by_cases hcmp : ((Z k).length : Int) - lb (Z k) t < zs k
        · go_wp2_with (go_at_call 27; refine (search_any (A k) _ (C k) (Z k) t _ rfl hin (HU.out k hlt) (by omega)).mono ?_; rintro e w' ⟨f, rfl, rfl⟩)
          go_ret
          exact ⟨by rw [ccB_false hlt (by omega) hcmp]; rfl, HW.out⟩
        · go_wp2_with (go_at_call 27; refine (search_any (A k) _ (C k) (Z k) t _ rfl hin (HU.out k hlt) (by omega)).mono ?_; rintro e w' ⟨f, rfl, rfl⟩)
          go_round
          case rel => exact ⟨k + 1, by omega, by go_num, fun i hi => by
            by_cases e : i = k
            · subst e; exact .inr (by omega)
            · exact HK.out i (by omega)⟩
          case measure => simp [intOf]; omega
    · go_wp2_with fail
      go_ret
      exact ⟨by rw [ccB_true (fun i hi => HK.out i (by omega))]; rfl, HW.out⟩
end Go.Proofs.Ybulkaqbo
