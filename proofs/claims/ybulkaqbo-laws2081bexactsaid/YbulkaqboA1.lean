import Derived.Test.YbulkaqboGrow
import Derived.BigQuiet
import Derived.Deep.QuietTactic
namespace Go.Proofs.Ybulkaqbo
open Go.RowKit

def aokR (n0 n1 : Nat) (L : Nat → Nat) (w : World) (e : Ending) (w' : World) : Prop := ∃ b, e = .returned (.bool b) ∧ w' = w ∧ (b = true → n0 ≤ 1024 ∧ n1 ≤ 1024 ∧ ∀ i, i < n1 → L i ≤ 1024)

set_option maxRecDepth 100000 in
/-- zzs2081aok. -/
theorem aok_any (a0 : Option Addr) (n0 c0 : Nat) (a1 : Option Addr) (n1 c1 : Nat) (A : Nat → Option Addr) (L C : Nat → Nat) (w : World) (h1 : In1 w a1 n1 (fun i => .slice (A i) (L i) (C i))) :
    Calls Yba.prog 9 #[.slice a0 n0 c0, .slice a1 n1 c1] w (aokR n0 n1 L w) := by
  by_cases hn0 : 1024 < n0
  · go_enter Yba.func9, Yba.ntmps9
    go_wp2
    go_ret
    exact ⟨_, rfl, rfl, by simp⟩
  by_cases hn1 : 1024 < n1
  · go_enter Yba.func9, Yba.ntmps9
    go_wp2
    go_ret
    exact ⟨_, rfl, rfl, by simp⟩
  go_enter Yba.func9, Yba.ntmps9
  go_wp2
  go_loop [6, 17] (fun _ i => ∃ k : Nat, k ≤ n1 ∧ i = .int .i64 k ∧ ∀ i, i < k → L i ≤ 1024) (fun _ i => n1 - (intOf i).toNat)
  case atStart => exact ⟨0, Nat.zero_le _, rfl, by omega⟩
  case round =>
    obtain ⟨k, hk, rfl, hL⟩ := hrel
    have HL : Hid (∀ i, i < k → L i ≤ 1024) := hL
    clear hL
    by_cases hlt : k < n1
    · rcases h1 with h1 | ⟨b, o, rfl, _, hc⟩
      · omega
      have hck := hc k hlt
      clear hc
      by_cases hLk : 1024 < L k
      · go_wp2
        go_ret
        exact ⟨_, rfl, rfl, by simp⟩
      · go_wp2
        go_round
        case rel => exact ⟨k + 1, by omega, by go_num, fun i hi => by
          by_cases e : i = k
          · subst e; omega
          · exact HL.out i (by omega)⟩
        case measure => simp [intOf]; omega
    · clear h1
      go_wp2
      go_ret
      exact ⟨_, rfl, rfl, fun _ => ⟨by omega, by omega, fun i hi => HL.out i (by omega)⟩⟩

set_option maxRecDepth 100000 in
/-- cmp.Less at int32. -/
theorem less_any (x y : Int) (w : World) : Calls Yba.prog 32 #[.int .i32 x, .int .i32 y] w fun e w' => e = .returned (.bool (decide (x < y))) ∧ w' = w := by
  go_enter Yba.func32, Yba.ntmps32
  go_wp2
  go_ret
  exact ⟨rfl, rfl⟩

set_option maxRecDepth 100000 in
/-- slices.isNaN at int32. -/
theorem isNaN_any (x : Int) (w : World) : Calls Yba.prog 33 #[.int .i32 x] w fun e w' => e = .returned (.bool false) ∧ w' = w := by
  go_enter Yba.func33, Yba.ntmps33
  go_wp2
  go_ret
  exact ⟨rfl, rfl⟩

/-- How many numbers of the list are less than t. -/
def lb (zs : List Int) (t : Int) : Nat := (zs.filter (fun z => decide (z < t))).length

theorem lb_le (zs : List Int) (t : Int) : lb zs t ≤ zs.length := List.length_filter_le _ _

theorem lb_at (zs : List Int) (t : Int) : ∀ i, i ≤ zs.length → (∀ k, k < i → zs.getD k 0 < t) → (∀ k, i ≤ k → k < zs.length → t ≤ zs.getD k 0) → lb zs t = i := by
  induction zs with
  | nil => intro i hi _ _; simp at hi; simp [lb, hi]
  | cons z zs ih =>
    intro i hi h1 h2
    cases i with
    | zero =>
      have hz : ¬ z < t := by have := h2 0 (Nat.le_refl _) (by simp); simp at this; omega
      have := ih 0 (Nat.zero_le _) (by omega) (fun k _ hk => by have := h2 (k + 1) (by omega) (by simpa using hk); simpa using this)
      simp only [lb] at this ⊢
      simp [hz]
      simpa using this
    | succ i =>
      have hz : z < t := by have := h1 0 (by omega); simpa using this
      have := ih i (by simpa using hi) (fun k hk => by have := h1 (k + 1) (by omega); simpa using this) (fun k hk hk' => by have := h2 (k + 1) (by omega) (by simpa using hk'); simpa using this)
      simp only [lb] at this ⊢
      simp [hz, this]

/-- The list does not go down. -/
def Up (zs : List Int) : Prop := ∀ i j, i ≤ j → j < zs.length → zs.getD i 0 ≤ zs.getD j 0

def bsR (zs : List Int) (t : Int) (w : World) (e : Ending) (w' : World) : Prop := ∃ f, e = .returned (.tuple #[.int .i64 (lb zs t), .bool f]) ∧ w' = w

theorem bs_ret {zs : List Int} {t : Int} {w : World} {i : Nat} {b : Bool} (h : lb zs t = i) : bsR zs t w (.returned (.tuple #[.int .i64 (i : Int), .bool b])) w := ⟨b, by rw [h], rfl⟩

theorem search_step (zs : List Int) (t : Int) (n i j : Nat) (hlt : i < j) (hj : j ≤ n) (hn : zs.length = n) (hup : Up zs) (h1 : ∀ k, k < i → zs.getD k 0 < t) (h2 : ∀ k, j ≤ k → k < n → t ≤ zs.getD k 0) :
    (zs[(i + j) / 2]?.getD 0 < t → ∀ k, k < (i + j) / 2 + 1 → zs.getD k 0 < t) ∧ (¬ zs[(i + j) / 2]?.getD 0 < t → ∀ k, (i + j) / 2 ≤ k → k < n → t ≤ zs.getD k 0) := by
  have _ := h1
  have _ := h2
  refine ⟨fun h k hk => ?_, fun h k hk hk' => ?_⟩
  · have := hup k ((i + j) / 2) (by omega) (by omega)
    rw [List.getD_eq_getElem?_getD] at this ⊢
    rw [List.getD_eq_getElem?_getD] at this
    omega
  · have := hup ((i + j) / 2) k hk (by omega)
    rw [List.getD_eq_getElem?_getD] at this ⊢
    rw [List.getD_eq_getElem?_getD] at this
    omega

set_option maxHeartbeats 1600000 in
set_option maxRecDepth 100000 in
/-- slices.BinarySearch at int32, over a row that does not go down. -/
theorem search_any (a : Option Addr) (n c : Nat) (zs : List Int) (t : Int) (w : World) (hn : zs.length = n) (hin : In1 w a n (fun i => .int .i32 (zs.getD i 0))) (hup : Up zs) (hle : n ≤ 1000000) :
    Calls Yba.prog 27 #[.slice a n c, .int .i32 t] w (bsR zs t w) := by
  have Hup : Hid (Up zs) := hup
  have Hn : Hid (zs.length = n) := hn
  clear hup hn
  go_enter Yba.func27, Yba.ntmps27
  go_wp2_with fail
  go_loop [7, 8, 9] (fun x y _ => ∃ i j : Nat, i ≤ j ∧ j ≤ n ∧ x = .int .i64 i ∧ y = .int .i64 j ∧ (∀ k, k < i → zs.getD k 0 < t) ∧ (∀ k, j ≤ k → k < n → t ≤ zs.getD k 0)) (fun x y _ => (intOf y).toNat - (intOf x).toNat)
  case atStart => exact ⟨0, n, Nat.zero_le _, Nat.le_refl _, rfl, rfl, by omega, by omega⟩
  case round =>
    obtain ⟨i, j, hij, hj, rfl, rfl, h1, h2⟩ := hrel
    have H1 : Hid (∀ k, k < i → zs.getD k 0 < t) := h1
    have H2 : Hid (∀ k, j ≤ k → k < n → t ≤ zs.getD k 0) := h2
    clear h1 h2
    by_cases hlt : i < j
    · rcases hin with hin | ⟨b, o, rfl, _, hc⟩
      · omega
      have hck := hc ((i + j) / 2) (by omega)
      clear hc
      have hfact := search_step zs t n i j hlt hj Hn.out Hup.out H1.out H2.out
      have HF : Hid ((zs[(i + j) / 2]?.getD 0 < t → ∀ k, k < (i + j) / 2 + 1 → zs.getD k 0 < t) ∧ (¬ zs[(i + j) / 2]?.getD 0 < t → ∀ k, (i + j) / 2 ≤ k → k < n → t ≤ zs.getD k 0)) := hfact
      clear hfact
      by_cases hcmp : zs[(i + j) / 2]?.getD 0 < t
      · go_wp2_with (go_at_call 32; refine (less_any _ _ _).mono ?_; rintro e w' ⟨rfl, rfl⟩)
        go_round
        case rel => exact ⟨(i + j) / 2 + 1, j, by omega, hj, by go_num, rfl, HF.out.1 hcmp, H2.out⟩
        case measure => simp [intOf]; omega
      · go_wp2_with (go_at_call 32; refine (less_any _ _ _).mono ?_; rintro e w' ⟨rfl, rfl⟩)
        go_round
        case rel => exact ⟨i, (i + j) / 2, by omega, by omega, rfl, by go_num, H1.out, HF.out.2 hcmp⟩
        case measure => simp [intOf]; omega
    · obtain rfl : i = j := by omega
      have HL : Hid (lb zs t = i) := lb_at zs t i (by have := Hn.out; omega) H1.out (fun k h1 h2 => H2.out k h1 (by have := Hn.out; omega))
      by_cases hin' : i < n
      · rcases hin with hin | ⟨b, o, rfl, _, hc⟩
        · omega
        have hck := hc i hin'
        clear hc
        by_cases heq : zs[i]?.getD 0 = t
        · have hq : (zs[i]?.getD 0 == t) = true := by simp [heq]
          have Heq : Hid (zs[i]?.getD 0 = t) := heq
          clear heq
          go_wp2_with (go_at_call 33; refine (isNaN_any _ _).mono ?_; rintro e w' ⟨rfl, rfl⟩)
          go_ret2
          exact bs_ret HL.out
        · have hq : (zs[i]?.getD 0 == t) = false := by simp [heq]
          clear heq
          go_wp2_with (go_at_call 33; refine (isNaN_any _ _).mono ?_; rintro e w' ⟨rfl, rfl⟩)
          go_ret2
          exact bs_ret HL.out
      · clear hin
        go_wp2_with fail
        go_ret2
        exact bs_ret HL.out
end Go.Proofs.Ybulkaqbo
