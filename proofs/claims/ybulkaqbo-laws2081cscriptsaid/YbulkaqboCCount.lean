import Derived.Test.YbulkaqboAdd
import Derived.ProofKit
import Derived.OpenShut
import Derived.ShutString
import Derived.ChangeOld
namespace Go.Proofs.Ybulkaqbo
open Go.RowKit

/-- What the six rows hold when k processes have been added to an empty graph. -/
def cz (k : Nat) : Nat → List Int := upd (upd emptyZ 0 (List.replicate k 0)) 1 (List.replicate k 0)
theorem cz_next (k : Nat) : upd (upd (cz k) 0 (cz k 0 ++ [0])) 1 (cz k 1 ++ [0]) = cz (k + 1) := by
  funext i
  by_cases h1 : i = 1
  · simp [cz, upd, h1, List.replicate_succ']
  · by_cases h0 : i = 0
    · simp [cz, upd, h0, List.replicate_succ']
    · simp [cz, upd, h1, h0]
theorem cz0 (k : Nat) : cz k 0 = List.replicate k 0 := by simp [cz, upd]
theorem cz1 (k : Nat) : cz k 1 = List.replicate k 0 := by simp [cz, upd]
theorem cz2 (k : Nat) : cz k 2 = [0] := by simp [cz, upd, emptyZ]
theorem cz3 (k : Nat) : cz k 3 = [] := by simp [cz, upd, emptyZ]
theorem cz4 (k : Nat) : cz k 4 = [] := by simp [cz, upd, emptyZ]
theorem cz5 (k : Nat) : cz k 5 = [] := by simp [cz, upd, emptyZ]
theorem cz_start : cz 0 = emptyZ := by funext i; simp only [cz, upd, emptyZ, List.replicate_zero]; split <;> (try split) <;> simp_all

theorem addProcess_k (B : Nat) (w : World) (gb : Nat) (A : Nat → Option Addr) (C : Nat → Nat) (k : Nat) (h : Gr B w gb A C (cz k)) (hB : B ≤ w.heap.size) (hk : k ≤ 1000000) :
    Calls Yba.prog 20 #[.pointer (some ⟨gb, 0, none⟩)] w fun e w' => e = .returned (.int .i32 k) ∧ Below B w w' ∧ ∃ A' C', Gr B w' gb A' C' (cz (k + 1)) := by
  refine (addProcess_any B w gb A C (cz k) h hB (by rw [cz0]; simpa using hk) (by rw [cz1]; simpa using hk)).mono ?_
  rintro e w' ⟨rfl, hb, _, A', C', hG⟩
  refine ⟨by rw [cz0]; simp, hb, A', C', ?_⟩
  rw [← cz_next]
  exact hG

theorem processes_k (B : Nat) (w : World) (gb : Nat) (A : Nat → Option Addr) (C : Nat → Nat) (k : Nat) (h : Gr B w gb A C (cz k)) : Calls Yba.prog 21 #[.pointer (some ⟨gb, 0, none⟩)] w fun e w' => e = .returned (.int .i64 k) ∧ w' = w := by
  refine (processes_any B w gb A C (cz k) h).mono ?_
  rintro e w' ⟨rfl, rfl⟩
  exact ⟨by rw [cz0]; simp, rfl⟩

/-- The world behind newEmptyWaitGraph. -/
def emptyA (w : World) : Nat → Option Addr := fun i => if i = 2 then some ⟨w.heap.size, 0, none⟩ else none
def emptyC : Nat → Nat := fun i => if i = 2 then 1 else 0
theorem gr_empty (w : World) : Gr w.heap.size ((w.alloc (.cells #[.int .i32 0] 21)).alloc (.cells #[.slice none 0 0, .slice none 0 0, .slice (some ⟨w.heap.size, 0, none⟩) 1 1, .slice none 0 0, .slice none 0 0, .slice none 0 0, .slice none 0 0, .slice none 0 0, .slice none 0 0] 69)) (w.heap.size + 1) (emptyA w) emptyC (cz 0) := by
  rw [cz_start]
  refine ⟨?_, ?_, ?_, by omega, ?_⟩
  · have := heap_alloc_new (w.alloc (.cells #[.int .i32 0] 21)) (.cells #[.slice none 0 0, .slice none 0 0, .slice (some ⟨w.heap.size, 0, none⟩) 1 1, .slice none 0 0, .slice none 0 0, .slice none 0 0, .slice none 0 0, .slice none 0 0, .slice none 0 0] 69)
    rw [World.size_alloc] at this
    rw [this]
    rfl
  · intro i hi
    by_cases h2 : i = 2
    · subst h2
      refine Own.kept (w := w.alloc (.cells #[.int .i32 0] 21)) ?_ (World.grownBy_alloc _ _ none) (by simp)
      exact Own.mk (heap_alloc_new w _) (Nat.le_refl _) (by simp [maxLen, emptyC]) rfl rfl
    · have ea : emptyA w i = none := by simp [emptyA, h2]
      have ec : emptyC i = 0 := by simp [emptyC, h2]
      have ez : emptyZ i = [] := by simp [emptyZ, h2]
      rw [ea, ec, ez]
      exact Own.nil _ _ _
  · intro i j g _ _ hij hb hb'
    have : i = 2 := by
      by_cases h2 : i = 2
      · exact h2
      · simp [emptyA, h2, blk] at hb
    have : j = 2 := by
      by_cases h2 : j = 2
      · exact h2
      · simp [emptyA, h2, blk] at hb'
    omega
  · intro i g _ hb
    by_cases h2 : i = 2
    · simp [emptyA, h2, blk] at hb
      omega
    · simp [emptyA, h2, blk] at hb

set_option maxHeartbeats 1600000 in
set_option maxRecDepth 100000 in
/-- LawS2081CCount returns true, and writes nothing that was there. -/
theorem ccount_walk (n : Int) (hn0 : 0 ≤ n) (w : World) : Calls Yba.prog 7 #[.int .u16 n] w fun e w' => e = .returned (.bool true) ∧ Below w.heap.size w w' := by
  obtain ⟨n, rfl⟩ := Int.eq_ofNat_of_zero_le hn0
  by_cases hbig : 1024 < n
  · go_enter Yba.func7, Yba.ntmps7
    go_wp2_with fail
    go_ret
    exact ⟨rfl, Below.refl _ _⟩
  · go_enter Yba.func7, Yba.ntmps7
    go_wp2_with fail
    refine (newEmpty_any w).mono ?_
    rintro e w0 ⟨rfl, rfl⟩
    have hG0 := gr_empty w
    have hb0 : Below w.heap.size w ((w.alloc (.cells #[.int .i32 0] 21)).alloc (.cells #[.slice none 0 0, .slice none 0 0, .slice (some ⟨w.heap.size, 0, none⟩) 1 1, .slice none 0 0, .slice none 0 0, .slice none 0 0, .slice none 0 0, .slice none 0 0, .slice none 0 0] 69)) := ((Below.refl _ w).alloc (Nat.le_refl _) _).alloc (by simp) _
    generalize ((w.alloc (.cells #[.int .i32 0] 21)).alloc (.cells #[.slice none 0 0, .slice none 0 0, .slice (some ⟨w.heap.size, 0, none⟩) 1 1, .slice none 0 0, .slice none 0 0, .slice none 0 0, .slice none 0 0, .slice none 0 0, .slice none 0 0] 69)) = w0 at *
    generalize emptyA w = A0 at *
    generalize emptyC = C0 at *
    generalize hgb : w.heap.size + 1 = gb at *
    have Hgb : Hid (w.heap.size + 1 = gb) := hgb
    clear hgb
    go_wp2_with fail
    go_loopw [4] (fun i wr => ∃ k : Nat, k ≤ n ∧ i = .int .i64 k ∧ Below w.heap.size w wr ∧ ∃ A C, Gr w.heap.size wr gb A C (cz k)) (fun i _ => n - (intOf i).toNat)
    case atStart => exact ⟨0, Nat.zero_le _, rfl, hb0, _, _, hG0⟩
    case round =>
      obtain ⟨k, hk, rfl, hb, A, C, hG⟩ := hrel
      by_cases hlt : k < n
      · go_wp2_with fail
        refine (addProcess_k _ _ gb A C k hG hb.size (by omega)).mono ?_
        rintro e w1 ⟨rfl, hb1, A1, C1, hG1⟩
        go_wp2_with fail
        go_roundw
        case rel => exact ⟨k + 1, by omega, by go_num, hb.trans hb1, _, _, hG1⟩
        case measure => simp [intOf]; omega
      · obtain rfl : k = n := by omega
        clear hb0 hG0
        have hc0 : wr.cell? ⟨gb, 0, none⟩ = some (.slice (A 0) k (C 0)) := by simpa [cz0] using hG.c0
        have hc1 : wr.cell? ⟨gb, 1, none⟩ = some (.slice (A 1) k (C 1)) := by simpa [cz1] using hG.c1
        have hc2 : wr.cell? ⟨gb, 2, none⟩ = some (.slice (A 2) 1 (C 2)) := by simpa [cz2] using hG.c2
        have hc3 : wr.cell? ⟨gb, 3, none⟩ = some (.slice (A 3) 0 (C 3)) := by simpa [cz3] using hG.c3
        have hc4 : wr.cell? ⟨gb, 4, none⟩ = some (.slice (A 4) 0 (C 4)) := by simpa [cz4] using hG.c4
        have hc5 : wr.cell? ⟨gb, 5, none⟩ = some (.slice (A 5) 0 (C 5)) := by simpa [cz5] using hG.c5
        have hc6 := hG.c6
        have ho0 : Own wr 21 1 (A 0) k (C 0) (ints (List.replicate k 0)) := by simpa [cz0] using hG.own 0 (by omega)
        have ho1 : Own wr 21 1 (A 1) k (C 1) (ints (List.replicate k 0)) := by simpa [cz1] using hG.own 1 (by omega)
        have ho2 : Own wr 21 1 (A 2) 1 (C 2) (ints [0]) := by simpa [cz2] using hG.own 2 (by omega)
        obtain ⟨g2, hA2⟩ : ∃ g2, A 2 = some ⟨g2, 0, none⟩ := by
          rcases ho2.shape with ⟨_, h, _⟩ | ⟨g, _, h, _⟩
          · cases h
          · exact ⟨g, h⟩
        rw [hA2] at hc2 ho2
        clear hA2
        have hg2 : wr.cell? ⟨g2, 0, none⟩ = some (.int .i32 0) := ho2.cell (j := 0) rfl
        clear ho2
        have hq : ∀ (w : World) (a : Option Addr) (n c n' c' : Nat), (binOp .neq 33 (.slice a n c) (.slice none n' c')).run Yba.prog w = .ok (.bool !a.isNone) w := fun w a n c n' c' => run_neq_slice_nil_any w _ _ a n c n' c' Yba.underlying33
        go_wp2_with fail
        refine (processes_k _ _ gb A C k hG).mono ?_
        rintro e w1 ⟨rfl, rfl⟩
        go_wp2_with fail
        refine (zeros_any _ _ _ _ ho0 (by omega)).mono ?_
        rintro e w1 ⟨rfl, rfl⟩
        go_wp2_with fail
        refine (zeros_any _ _ _ _ ho1 (by omega)).mono ?_
        rintro e w1 ⟨rfl, rfl⟩
        go_wp2_with fail
        go_ret
        exact ⟨rfl, hb⟩

open Go.ChangeShapes Go.WideShapes Go.ChangeAt

theorem own : ownKnob Yba.prog.godebug = none := by kernel_rfl

set_option maxRecDepth 100000 in
theorem ccount_lifted (os : Os) (started : os.Started) (H : Type) (enc : TypeId × Value → H) :
    ReturnsInHanded {} Yba.checked os 7 .any (Rows.lawS2081CCountSpec.pre6 enc Yba.prog Yba.f7 Rows.lawS2081CCountRow.domain false) (Rows.lawS2081CCountSpec.post enc Yba.prog Yba.f7 false true false false) := by
  refine returnsInHanded_of_change (C := Yba.checked) own started (by kernel_rfl) Yba.func7
    (ChangeSpec.witness6 (enc := enc) (C := Yba.checked) false ⟨#[], #[.int .u16 0], []⟩ 8 (by kernel_rfl) (by kernel_rfl) (by kernel_rfl) (by kernel_rfl)) ?_
  intro W base args ds gs before hval0 hW hcnd _
  have hval : ∀ (j : Nat) t v, Yba.f7.params[j]? = some t → args[j]? = some v → Value.okWide Yba.prog W .any base t v := hval0
  have hW' := hW
  obtain ⟨p, q, hA0, hV, rfl, hfz, hnd⟩ := hW
  have hA : DataW.TrodAll enc Yba.prog W 0 (fun _ => true) true Yba.f7.params.toList args.toList ds p := hA0
  rw [Yba.params7] at hA hval
  obtain ⟨v0, vs0, d0, ds0, p0, q0, hargs, rfl, rfl, h0, r0⟩ := trodAll_cons hA
  obtain ⟨rfl, rfl, rfl⟩ := trodAll_nil r0
  obtain rfl : args = #[v0] := by cases args; simp_all
  obtain ⟨rfl, rfl⟩ := trodVars_none hV
  obtain ⟨a0, rfl, rfl, rfl, w0⟩ := open_int Yba.underlying63 (hval 0 63 v0 rfl rfl) h0
  clear hA0 hval0
  have hn0 : 0 ≤ a0 := by
    simp [Lit.wf, IntKind.min, IntKind.signed] at w0
    omega
  refine (ccount_walk a0 hn0 W).mono fun e W' ⟨he, bel⟩ => ?_
  subst he
  exact ⟨_, rfl, _, _, _, [], _, [], hW', trodAll_mk1 (shut_bool Yba.underlying4 _), (trodAll_cons_mk (shut_int Yba.underlying63 w0) trodAll_mk0), rfl, bel.frame _, fun h => by cases h⟩

theorem ccount_proved : Rows.LawS2081CCountSaid :=
  OpenClaim.holds_of_wide 7 Yba.f7 rfl rfl rfl rfl rfl rfl rfl ⟨rfl, rfl, rfl, rfl, rfl⟩ rfl rfl rfl rfl rfl (by kernel_rfl) Yba.func7 (by kernel_rfl)
    (of_decide_eq_true (by kernel_rfl)) (by unfold Func.isWrapper; first | (rw [if_pos (by decide +kernel)]; kernel_rfl) | (rw [if_neg (by decide +kernel)]; exact ⟨rfl, rfl⟩))
    (fun os started H enc _ => ccount_lifted os started H enc)
end Go.Proofs.Ybulkaqbo
