import Derived.Test.YbulkaqboB3
import Derived.Deep.Cut
namespace Go.Proofs.Ybulkaqbo
open Go.RowKit

theorem cell_lit {w : World} {s : Nat} {x : Value} {t : TypeId} (h : w.heap.size = s) : ∀ j u, [x][j]? = some u → (w.alloc (.cells #[x] t)).cell? ((⟨s, 0, none⟩ : Addr).add j) = some u := by
  subst h
  exact cell_one_new w x t

theorem HLq2 {p : Procs} {n k L q : Nat} (h : (tgs p n k ++ tg p n k q).length = L + q) (hq : p.tl k = q) : (tgs p n k ++ tg p n k (p.tl k)).length = L + q := by rw [hq]; exact h

/-- The end of a round of a process that waits. -/
theorem bs_round {w0 wr : World} {B n k L q : Nat} {b : Nat → Nat} {p : Procs} {A : Nat → Option Addr} {C : Nat → Nat} (h : Bs w0 wr B b n (fk p (k + 1)) A C (upd (upd (upd (upd (zk4 p n k) 2 (nds p k ++ [p.nd k])) 3 (ows p k ++ [(k : Int)])) 1 (tgs p n k ++ tg p n k q)) 0 ((upd (upd (upd (zk4 p n k) 2 (nds p k ++ [p.nd k])) 3 (ows p k ++ [(k : Int)])) 1 (tgs p n k ++ tg p n k q)) 0 ++ [(L : Int) + q])))
    (hw : p.wt k = true) (hl : (tgs p n k ++ tg p n k q).length = L + q) (hq : p.tl k = q) : Bs w0 wr B b n (fk p (k + 1)) A C (zk4 p n (k + 1)) := by
  have ht : tgs p n (k + 1) = tgs p n k ++ tg p n k q := by simp [tgs, hw, hq]
  refine h.congrZ (fun i hi => ?_)
  match i, hi with
  | 0, _ =>
    have e : fns p n (k + 1) = fns p n k ++ [((tgs p n (k + 1)).length : Int)] := by simp [fns, hw]
    rw [ht, hl] at e
    simp only [zk4, upd]
    simp [e]
  | 1, _ => simp [zk4, upd, ht]
  | 2, _ => simp [zk4, upd, nds, hw]
  | 3, _ => simp [zk4, upd, ows, hw]

theorem decl_next {W0 wr w4 : World} {ad : Option Addr} {q cd g cap : Nat} {xs : List Value} {x : Value} {o : Obj} (h : Own wr 21 1 ad q cd xs ∧ (∀ g, blk ad = some g → W0.heap.size ≤ g) ∧ Below W0.heap.size W0 wr)
    (ho : Own w4 21 1 (some ⟨g, 0, none⟩) (q + 1) cap (xs ++ [x])) (hg : (wr.alloc o).grownBy w4 (blk ad)) (hw : ad = some ⟨g, 0, none⟩ ∨ g = (wr.alloc o).heap.size) :
    Own w4 21 1 (some ⟨g, 0, none⟩) (q + 1) cap (xs ++ [x]) ∧ (∀ g', blk (some ⟨g, 0, none⟩) = some g' → W0.heap.size ≤ g') ∧ Below W0.heap.size W0 w4 := by
  have hs := h.2.2.size
  refine ⟨ho, fun g' hg' => ?_, (h.2.2.alloc hs o).grown hg (by simp; omega) h.2.1⟩
  simp [blk] at hg'
  rcases hw with e | e
  · exact h.2.1 g' (by rw [e, ← hg']; rfl)
  · simp at e; omega

def bR (w : World) (n : Nat) (p : Procs) (e : Ending) (w' : World) : Prop := ∃ sb gb b m dec A C ad cd, e = .returned (.tuple #[.pointer (some ⟨sb, 0, none⟩), .slice ad m cd]) ∧ Snap w' sb gb b n m p dec A C ad cd ∧ Below w.heap.size w w' ∧ m ≤ 1024

set_option maxHeartbeats 4000000 in
set_option maxRecDepth 100000 in
theorem bbuild_any (a0 : Option Addr) (n c0 : Nat) (p : Procs) (a1 : Option Addr) (m c1 : Nat) (O : Nat → Int) (w : World)
    (h0 : InProcs w a0 n p) (h1 : In1 w a1 m (fun i => .int .u8 (O i))) (hO : ∀ i, 0 ≤ O i ∧ O i ≤ 255) (hn : n ≤ 1024) (hm : m ≤ 1024) (hL : ∀ i, i < n → p.tl i ≤ 1024) :
    Calls Yba.prog 14 #[.slice a0 n c0, .slice a1 m c1] w (bR w n p) := by
  obtain ⟨i9, h90, h91, h92, h93⟩ := info_parts Yba.info9
  obtain ⟨i85, h850, h851, h852, h853⟩ := info_parts Yba.info85
  obtain ⟨i21, h210, h211, h212, h213⟩ := info_parts Yba.info21
  obtain ⟨i3, h30, h31, h32, h33⟩ := info_parts Yba.info3'
  go_enter Yba.func14, Yba.ntmps14
  go_wp2_with (at_make; first | refine wpList_make_mine _ rfl (.tmp 27) (.tmp 27) 55 rfl 9 i9 (.string ByteArray.empty) 1 16 Yba.underlying55 h90 h91 h92 h93 .i64 .i64 n n _ _ rfl rfl rfl rfl (Nat.le_refl _) (by omega) (by omega) ?_ | refine wpList_make_mine _ rfl (.tmp 29) (.tmp 29) 82 rfl 85 i85 (.agg #[.int .u32 0, .int .u16 0, .int .u8 0]) 3 8 Yba.underlying82 h850 h851 h852 h853 .i64 .i64 n n _ _ rfl rfl rfl rfl (Nat.le_refl _) (by omega) (by omega) ?_ | refine wpList_make_mine _ rfl (.tmp 31) (.tmp 31) 33 rfl 21 i21 (.int .i32 0) 1 4 Yba.underlying33 h210 h211 h212 h213 .i64 .i64 n n _ _ rfl rfl rfl rfl (Nat.le_refl _) (by omega) (by omega) ?_ | refine wpList_make_mine _ rfl (.tmp 33) (.tmp 33) 33 rfl 21 i21 (.int .i32 0) 1 4 Yba.underlying33 h210 h211 h212 h213 .i64 .i64 n n _ _ rfl rfl rfl rfl (Nat.le_refl _) (by omega) (by omega) ?_ | refine wpList_make_mine _ rfl (.tmp 36) (.tmp 36) 22 rfl 3 i3 (.int .i64 0) 1 8 Yba.underlying22 h30 h31 h32 h33 .i64 .i64 n n _ _ rfl rfl rfl rfl (Nat.le_refl _) (by omega) (by omega) ?_)
  have hB0 := bs_start w n p
  have e1 : w.heap.size + 1 + 1 = w.heap.size + 2 := rfl
  generalize ((((((w.alloc (.cells (madeCells #[Value.string ByteArray.empty] n) 9)).alloc (.cells (madeCells #[Value.int .u32 0, Value.int .u16 0, Value.int .u8 0] (n * 3)) 85)).alloc (.cells (madeCells #[Value.int .i32 0] n) 21)).alloc (.cells (madeCells #[Value.int .i32 0] n) 21)).alloc (.cells #[Value.int .i32 0] 21)).alloc (.cells (madeCells #[Value.int .i64 0] n) 3)) = w1 at *
  clear e1
  generalize w.heap.size + 1 + 1 + 1 + 1 + 1 = b5 at *
  generalize w.heap.size + 1 + 1 + 1 + 1 = b4 at *
  generalize w.heap.size + 1 + 1 + 1 = b3 at *
  generalize w.heap.size + 1 + 1 = b2 at *
  generalize w.heap.size + 1 = b1 at *
  obtain ⟨b0, eb0⟩ : ∃ b0, w.heap.size = b0 := ⟨_, rfl⟩
  have HB0 : Hid (Bs w w1 w.heap.size (sel5 b0 b1 b2 b3 b5) n (fk p 0) (fun i => if i = 0 then some ⟨b4, 0, none⟩ else none) (fun i => if i = 0 then 1 else 0) (zk4 p n 0)) := by rw [← eb0]; exact hB0
  rw [eb0]
  clear hB0 eb0
  have hBw : w.heap.size ≤ w.heap.size := Nat.le_refl _
  go_loopw [11, 12, 13, 14, 16] (fun s11 s12 s13 s14 x wr => ∃ (k : Nat) (A : Nat → Option Addr) (C : Nat → Nat), k ≤ n ∧ x = .int .i64 k ∧ s11 = .slice (A 0) (cw p k + 1) (C 0) ∧ s12 = .slice (A 1) (tgs p n k).length (C 1) ∧ s13 = .slice (A 2) (cw p k) (C 2) ∧ s14 = .slice (A 3) (cw p k) (C 3) ∧
      Bs w wr w.heap.size (sel5 b0 b1 b2 b3 b5) n (fk p k) A C (zk4 p n k)) (fun _ _ _ _ x _ => n - (intOf x).toNat)
  case atStart => exact ⟨0, _, _, Nat.zero_le _, rfl, rfl, rfl, rfl, rfl, HB0.out⟩
  case round =>
    obtain ⟨k, A, C, hk, rfl, rfl, rfl, rfl, rfl, hBs⟩ := hrel
    clear HB0
    have HB : Hid (Bs w wr w.heap.size (sel5 b0 b1 b2 b3 b5) n (fk p k) A C (zk4 p n k)) := hBs
    have H0 : Hid (InProcs w a0 n p) := h0
    have H1 : Hid (In1 w a1 m (fun i => .int .u8 (O i))) := h1
    have HL : Hid (∀ i, i < n → p.tl i ≤ 1024) := hL
    have HO : Hid (∀ i, 0 ≤ O i ∧ O i ≤ 255) := hO
    clear h0 h1 hL hBs hO
    by_cases hlt : k < n
    · obtain ⟨bp, op, rfl, hc0, hc1, hc2, hc3, hc4, hbp⟩ : ∃ b o, a0 = some ⟨b, o, none⟩ ∧ wr.cell? ⟨b, o + k * 5, none⟩ = some (.int .u8 (p.nm k)) ∧ wr.cell? ⟨b, o + k * 5 + 1, none⟩ = some (.int .i64 (p.ln k)) ∧
          wr.cell? ⟨b, o + k * 5 + 2, none⟩ = some (.bool (p.wt k)) ∧ wr.cell? ⟨b, o + k * 5 + 3, none⟩ = some (.int .u8 (p.nd k)) ∧ wr.cell? ⟨b, o + k * 5 + 4, none⟩ = some (.slice (p.ta k) (p.tl k) (p.tc k)) ∧ b < w.heap.size := by
        rcases (H0.out.below HB.out.bel).outer with h | ⟨b, o, ha, _, hc⟩
        · omega
        · rcases H0.out.outer with h' | ⟨b', o', ha', hlt', _⟩
          · omega
          · rw [ha] at ha'
            simp at ha'
            obtain ⟨h1, h2, h3, h4, h5⟩ := hc k hlt
            exact ⟨b, o, ha, h1, h2, h3, h4, h5, by omega⟩
      have hm1 := (H0.out.nmOk k).1
      have hm2 := (H0.out.nmOk k).2
      go_wp2_with fail
      refine (name_any (p.nm k) hm1 hm2 _).mono ?_
      rintro e w' ⟨rfl, hw'⟩
      have hw2 := hw'.symm
      subst hw2
      clear hw'
      have hsz := nameOf_size (p.nm k)
      obtain ⟨d01, d02, d03, d05, d12, d13, d15, d23, d25, d35⟩ := HB.out.apart5
      obtain ⟨l0, l1, l2, l3, l5⟩ := HB.out.low5 hbp
      obtain ⟨q0, q0', q1, q1', q2, q2', q3, q3', q4, q4', q5, q5', q6, q6'⟩ := HB.out.at5 hlt
      obtain ⟨nmk, hnm⟩ : ∃ x, nameOf (p.nm k) = x := ⟨_, rfl⟩
      have Hnm : Hid (nameOf (p.nm k) = nmk) := hnm
      rw [hnm] at hsz ⊢
      clear hnm
      have H5 : Hid (Bs w (((((wr.setCell ⟨b0, k, none⟩ (.string nmk)).setCell ⟨b1, k * 3, none⟩ (.int .u32 k)).setCell ⟨b1, k * 3 + 1, none⟩ (.int .u16 0)).setCell ⟨b1, k * 3 + 2, none⟩ (.int .u8 nmk.size)).setCell ⟨b5, k, none⟩ (.int .i64 (p.ln k))) w.heap.size (sel5 b0 b1 b2 b3 b5) n (fun i j => if i = 2 ∨ i = 3 then fk p k i j else fk p (k + 1) i j) A C (zk4 p n k)) := bs_five HB.out Hnm.out
      have hcwle := cw_le p k
      cases hwt : p.wt k with
      | false =>
        rw [hwt] at hc2
        have HW : Hid (p.wt k = false) := hwt
        have HR : Hid (cw p (k + 1) = cw p k ∧ tgs p n (k + 1) = tgs p n k) := by show _ ∧ _; simp [cw, tgs, hwt]
        clear hwt
        go_wp2_with fail
        go_roundw
        case rel => exact ⟨k + 1, A, C, by omega, by go_num, by rw [HR.out.1], by rw [HR.out.2], by rw [HR.out.1], by rw [HR.out.1], bs_runs H5.out HW.out⟩
        case measure => simp [intOf]; omega
      | true =>
        rw [hwt] at hc2
        have HW : Hid (p.wt k = true) := hwt
        have HR : Hid (cw p (k + 1) = cw p k + 1 ∧ tgs p n (k + 1) = tgs p n k ++ tg p n k (p.tl k)) := by show _ ∧ _; simp [cw, tgs, hwt]
        clear hwt
        have H7 : Hid (Bs w (((((((wr.setCell ⟨b0, k, none⟩ (.string nmk)).setCell ⟨b1, k * 3, none⟩ (.int .u32 k)).setCell ⟨b1, k * 3 + 1, none⟩ (.int .u16 0)).setCell ⟨b1, k * 3 + 2, none⟩ (.int .u8 nmk.size)).setCell ⟨b5, k, none⟩ (.int .i64 (p.ln k))).setCell ⟨b2, k, none⟩ (.int .i32 (cw p k))).setCell ⟨b3, k, none⟩ (.int .i32 ((cw p k : Int) + 1))) w.heap.size (sel5 b0 b1 b2 b3 b5) n (fk p (k + 1)) A C (zk4 p n k)) := bs_waits H5.out HW.out
        have hnd1 := (H0.out.ndOk k).1
        have hnd2 := (H0.out.ndOk k).2
        clear H5
        go_upto_region 20 with (fail)
        generalize ((((((wr.setCell ⟨b0, k, none⟩ (.string nmk)).setCell ⟨b1, k * 3, none⟩ (.int .u32 k)).setCell ⟨b1, k * 3 + 1, none⟩ (.int .u16 0)).setCell ⟨b1, k * 3 + 2, none⟩ (.int .u8 nmk.size)).setCell ⟨b5, k, none⟩ (.int .i64 (p.ln k))).setCell ⟨b2, k, none⟩ (.int .i32 (cw p k))).setCell ⟨b3, k, none⟩ (.int .i32 ((cw p k : Int) + 1)) = W7 at *
        have hc3' : W7.cell? ⟨bp, op + k * 5 + 3, none⟩ = some (.int .u8 (p.nd k)) := (H7.out.bel.cell (p := ⟨bp, op + k * 5 + 3, none⟩) hbp).trans ((HB.out.bel.cell (p := ⟨bp, op + k * 5 + 3, none⟩) hbp).symm.trans hc3)
        clear hc0 hc1 hc2 hc3 q0 q0' q1 q1' q2 q2' q3 q3' q4 q4' q5 q5' q6 q6' l0 l1 l2 l3 l5 d01 d02 d03 d05 d12 d13 d15 d23 d25 d35 hsz
        go_upto_region 21 with (at_builtin; refine wpList_append_mine _ rfl (.tmp 87) (.tmp 94) 33 rfl 21 i21 (.int .i32 0) 1 4 Yba.underlying33 h210 h211 h212 h213 rfl (by decide) (A 2) (cw p k) (C 2) (ints (nds p k)) rfl (H7.out.ownAt hBw (k := 2) (by omega) (nds_length p k) (.cells #[.int .i32 (p.nd k)] 21)) ⟨W7.heap.size, 0, none⟩ 1 1 (by decide) [.int .i32 (p.nd k)] rfl rfl (cell_lit rfl) (by simp [Value.oneCell']) (by unfold maxLen; omega) (by omega) ?_; intro g2 cap2 w2 ho2 hgr2 hw2)
        have HB8 : Hid (Bs w w2 w.heap.size (sel5 b0 b1 b2 b3 b5) n (fk p (k + 1)) (upd A 2 (some ⟨g2, 0, none⟩)) (upd C 2 cap2) (upd (zk4 p n k) 2 (nds p k ++ [p.nd k]))) := H7.out.append hBw (k := 2) (by omega) (nds_length p k) ho2 hgr2 hw2
        clear ho2 hgr2 hw2 H7 hc3' hnd1 hnd2
        have hkb : k ≤ 1024 := by omega
        go_upto_region 22 with (at_builtin; refine wpList_append_mine _ rfl (.tmp 96) (.tmp 99) 33 rfl 21 i21 (.int .i32 0) 1 4 Yba.underlying33 h210 h211 h212 h213 rfl (by decide) (A 3) (cw p k) (C 3) (ints (ows p k)) rfl (HB8.out.ownAt hBw (k := 3) (by omega) (ows_length p k) (.cells #[.int .i32 k] 21)) ⟨w2.heap.size, 0, none⟩ 1 1 (by decide) [.int .i32 k] rfl rfl (cell_lit rfl) (by simp [Value.oneCell']) (by unfold maxLen; omega) (by omega) ?_; intro g3 cap3 w3 ho3 hgr3 hw3)
        have HB9 : Hid (Bs w w3 w.heap.size (sel5 b0 b1 b2 b3 b5) n (fk p (k + 1)) (upd (upd A 2 (some ⟨g2, 0, none⟩)) 3 (some ⟨g3, 0, none⟩)) (upd (upd C 2 cap2) 3 cap3) (upd (upd (zk4 p n k) 2 (nds p k ++ [p.nd k])) 3 (ows p k ++ [(k : Int)]))) := HB8.out.append hBw (k := 3) (by omega) (ows_length p k) ho3 hgr3 hw3
        have hc4' : w3.cell? ⟨bp, op + k * 5 + 4, none⟩ = some (.slice (p.ta k) (p.tl k) (p.tc k)) := (HB9.out.bel.cell (p := ⟨bp, op + k * 5 + 4, none⟩) hbp).trans ((HB.out.bel.cell (p := ⟨bp, op + k * 5 + 4, none⟩) hbp).symm.trans hc4)
        clear ho3 hgr3 hw3 HB8 hc4
        have HI : Hid (In1 w (p.ta k) (p.tl k) (fun j => .int .u8 (p.td k j))) := H0.out.inner k hlt
        have hLk := HL.out k hlt
        have hTl := tgs_length_le p n HL.out k hk
        have HT : Hid (∀ j, 0 ≤ p.td k j ∧ p.td k j ≤ 255) := H0.out.tdOk k
        obtain ⟨tak, htak⟩ : ∃ x, p.ta k = x := ⟨_, rfl⟩
        rw [htak] at hc4' HI
        clear htak
        obtain ⟨tlk, htlk⟩ : ∃ x, p.tl k = x := ⟨_, rfl⟩
        have Htl : Hid (p.tl k = tlk) := htlk
        rw [htlk] at hc4' HI hLk
        clear htlk
        go_wp2_with fail
        clear hc4'
        obtain ⟨Lk, hLen⟩ : ∃ x, (tgs p n k).length = x := ⟨_, rfl⟩
        have HLen : Hid ((tgs p n k).length = Lk) := hLen
        rw [hLen] at hTl ⊢
        clear hLen
        have hTl2 : Lk ≤ 1048576 := by omega
        have hn0 : 0 < n := by omega
        have HS : Hid (Bs w w3 w.heap.size (sel5 b0 b1 b2 b3 b5) n (fk p (k + 1)) (upd (upd (upd A 2 (some ⟨g2, 0, none⟩)) 3 (some ⟨g3, 0, none⟩)) 1 (A 1)) (upd (upd (upd C 2 cap2) 3 cap3) 1 (C 1)) (upd (upd (upd (zk4 p n k) 2 (nds p k ++ [p.nd k])) 3 (ows p k ++ [(k : Int)])) 1 (tgs p n k ++ tg p n k 0))) := by
          have e1 := upd_self (upd (upd A 2 (some ⟨g2, 0, none⟩)) 3 (some ⟨g3, 0, none⟩)) 1
          have e2 := upd_self (upd (upd C 2 cap2) 3 cap3) 1
          have e3 := upd_self (upd (upd (zk4 p n k) 2 (nds p k ++ [p.nd k])) 3 (ows p k ++ [(k : Int)])) 1
          have e4 : tgs p n k ++ tg p n k 0 = (upd (upd (zk4 p n k) 2 (nds p k ++ [p.nd k])) 3 (ows p k ++ [(k : Int)])) 1 := by simp [upd, zk4, tg]
          have e5 : A 1 = (upd (upd A 2 (some ⟨g2, 0, none⟩)) 3 (some ⟨g3, 0, none⟩)) 1 := by simp [upd]
          have e6 : C 1 = (upd (upd C 2 cap2) 3 cap3) 1 := by simp [upd]
          rw [e4, e3, e5, e1, e6, e2]
          exact HB9.out
        clear HB9
        go_loopw [12, 107] (fun s12 x wr => ∃ (q : Nat) (a1' : Option Addr) (c1' : Nat), q ≤ tlk ∧ x = .int .i64 q ∧ s12 = .slice a1' (Lk + q) c1' ∧
          Bs w wr w.heap.size (sel5 b0 b1 b2 b3 b5) n (fk p (k + 1)) (upd (upd (upd A 2 (some ⟨g2, 0, none⟩)) 3 (some ⟨g3, 0, none⟩)) 1 a1') (upd (upd (upd C 2 cap2) 3 cap3) 1 c1') (upd (upd (upd (zk4 p n k) 2 (nds p k ++ [p.nd k])) 3 (ows p k ++ [(k : Int)])) 1 (tgs p n k ++ tg p n k q))) (fun _ x _ => tlk - (intOf x).toNat)
        case atStart => exact ⟨0, A 1, C 1, Nat.zero_le _, rfl, rfl, HS.out⟩
        case round =>
          obtain ⟨q, a1', c1', hq, rfl, rfl, hBq⟩ := hrel
          have HQ := (show Hid (Bs w wr w.heap.size (sel5 b0 b1 b2 b3 b5) n (fk p (k + 1)) (upd (upd (upd A 2 (some ⟨g2, 0, none⟩)) 3 (some ⟨g3, 0, none⟩)) 1 a1') (upd (upd (upd C 2 cap2) 3 cap3) 1 c1') (upd (upd (upd (zk4 p n k) 2 (nds p k ++ [p.nd k])) 3 (ows p k ++ [(k : Int)])) 1 (tgs p n k ++ tg p n k q))) from hBq)
          clear hBq HS
          have HLq : Hid ((tgs p n k ++ tg p n k q).length = Lk + q) := by show _ = _; rw [List.length_append, tg_length, HLen.out]
          by_cases hql : q < tlk
          · obtain ⟨bt, ot, rfl, hct⟩ : ∃ b o, tak = some ⟨b, o, none⟩ ∧ wr.cell? ⟨b, o + q, none⟩ = some (.int .u8 (p.td k q)) := by
              rcases HI.out.below HQ.out.bel with h | ⟨b, o, h1, _, h2⟩
              · omega
              · exact ⟨b, o, h1, h2 q hql⟩
            have ht1 := (HT.out q).1
            have ht2 := (HT.out q).2
            have hm1' : 0 ≤ p.td k q % (n : Int) := Int.emod_nonneg _ (by omega)
            have hm2' : p.td k q % (n : Int) < 1024 := by have := Int.emod_lt_of_pos (p.td k q) (show (0 : Int) < n by omega); omega
            go_wp2_with (at_builtin; refine wpList_append_mine _ rfl (.tmp 111) (.tmp 117) 33 rfl 21 i21 (.int .i32 0) 1 4 Yba.underlying33 h210 h211 h212 h213 rfl (by decide) a1' (Lk + q) c1' (ints (tgs p n k ++ tg p n k q)) rfl (HQ.out.ownAt hBw (k := 1) (by omega) HLq.out (.cells #[.int .i32 (p.td k q % n)] 21)) ⟨wr.heap.size, 0, none⟩ 1 1 (by decide) [.int .i32 (p.td k q % n)] rfl rfl (cell_lit rfl) (by simp [Value.oneCell']) (by unfold maxLen; omega) (by omega) ?_; intro g4 cap4 w4 ho4 hgr4 hw4)
            have HB10 := bs_target HQ.out hBw HLq.out ho4 hgr4 hw4
            clear ho4 hgr4 hw4 hct
            go_roundw
            case rel => exact ⟨q + 1, some ⟨g4, 0, none⟩, cap4, by omega, by go_num, rfl, by rw [tg, ← List.append_assoc]; exact HB10⟩
            case measure => simp [intOf]; omega
          · obtain rfl : q = tlk := by omega
            go_wp2_with (at_builtin; refine wpList_append_mine _ rfl (.tmp 120) (.tmp 124) 33 rfl 21 i21 (.int .i32 0) 1 4 Yba.underlying33 h210 h211 h212 h213 rfl (by decide) (A 0) (cw p k + 1) (C 0) (ints (fns p n k)) rfl (HQ.out.ownAt hBw (k := 0) (by omega) (fns_length p n k) (.cells #[.int .i32 ((Lk : Int) + q)] 21)) ⟨wr.heap.size, 0, none⟩ 1 1 (by decide) [.int .i32 ((Lk : Int) + q)] rfl rfl (cell_lit rfl) (by simp [Value.oneCell']) (by unfold maxLen; omega) (by omega) ?_; intro g4 cap4 w4 ho4 hgr4 hw4)
            have HB10 := HQ.out.append hBw (k := 0) (by omega) (fns_length p n k) ho4 hgr4 hw4
            clear ho4 hgr4 hw4
            go_roundw
            case rel => exact ⟨k + 1, _, _, by omega, by go_num, by rw [HR.out.1]; rfl, by rw [HR.out.2, HLq2 HLq.out Htl.out]; rfl, by rw [HR.out.1]; rfl, by rw [HR.out.1]; rfl, bs_round HB10 HW.out HLq.out Htl.out⟩
            case measure => simp [intOf]; omega
    · obtain rfl : k = n := by omega
      generalize wr = W0 at *
      have HDz : Hid (Own (W0.alloc (.cells (madeCells #[.int .i32 0] m) 21)) 21 1 (some ⟨W0.heap.size, 0, none⟩) 0 m (ints (decs k O 0)) ∧ Below W0.heap.size W0 (W0.alloc (.cells (madeCells #[.int .i32 0] m) 21))) := ⟨Own.mk (heap_alloc_new W0 _) (Nat.zero_le _) (by unfold maxLen; omega) (by rw [size_madeCells, Nat.mul_one]) rfl, (Below.refl _ W0).alloc (Nat.le_refl _) _⟩
      go_upto_region 29 with (at_make; refine wpList_make_mine _ rfl (.const (.int .i64 0)) (.tmp 127) 33 rfl 21 i21 (.int .i32 0) 1 4 Yba.underlying33 h210 h211 h212 h213 .i64 .i64 0 m _ _ rfl rfl rfl rfl (Nat.zero_le _) (by omega) (by omega) ?_)
      generalize W0.alloc (.cells (madeCells #[.int .i32 0] m) 21) = wd at *
      by_cases hk1 : 0 < k
      · go_wp2_with fail
        go_loopw [21, 133] (fun s21 x wd => ∃ (q : Nat) (ad : Option Addr) (cd : Nat), q ≤ m ∧ x = .int .i64 q ∧ s21 = .slice ad q cd ∧ Own wd 21 1 ad q cd (ints (decs k O q)) ∧ (∀ g, blk ad = some g → W0.heap.size ≤ g) ∧ Below W0.heap.size W0 wd) (fun _ x _ => m - (intOf x).toNat)
        case atStart => exact ⟨0, _, _, Nat.zero_le _, rfl, rfl, HDz.out.1, fun g hg => by simp [blk] at hg; omega, HDz.out.2⟩
        case round =>
          obtain ⟨q, ad, cd, hq, rfl, rfl, hod, hlo, hbd⟩ := hrel
          have HD : Hid (Own wr 21 1 ad q cd (ints (decs k O q)) ∧ (∀ g, blk ad = some g → W0.heap.size ≤ g) ∧ Below W0.heap.size W0 wr) := ⟨hod, hlo, hbd⟩
          clear hod hlo hbd
          by_cases hql : q < m
          · obtain ⟨bt, ot, rfl, hct⟩ : ∃ b o, a1 = some ⟨b, o, none⟩ ∧ wr.cell? ⟨b, o + q, none⟩ = some (.int .u8 (O q)) := by
              rcases H1.out.below (HB.out.bel.trans (HD.out.2.2.mono (HB.out.size hBw))) with h | ⟨b, o, h1, _, h2⟩
              · omega
              · exact ⟨b, o, h1, h2 q hql⟩
            have ht1 := (HO.out q).1
            have ht2 := (HO.out q).2
            have hm1' : 0 ≤ O q % (k : Int) := Int.emod_nonneg _ (by omega)
            have hm2' : O q % (k : Int) < 1024 := by have := Int.emod_lt_of_pos (O q) (show (0 : Int) < k by omega); omega
            go_wp2_with (at_builtin; refine wpList_append_mine _ rfl (.tmp 137) (.tmp 143) 33 rfl 21 i21 (.int .i32 0) 1 4 Yba.underlying33 h210 h211 h212 h213 rfl (by decide) ad q cd (ints (decs k O q)) rfl (HD.out.1.kept (World.grownBy_alloc wr (.cells #[.int .i32 (O q % k)] 21) none) (by simp)) ⟨wr.heap.size, 0, none⟩ 1 1 (by decide) [.int .i32 (O q % k)] rfl rfl (cell_lit rfl) (by simp [Value.oneCell']) (by unfold maxLen; omega) (by omega) ?_; intro g4 cap4 w4 ho4 hgr4 hw4)
            have R := decl_next HD.out ho4 hgr4 hw4
            clear ho4 hgr4 hw4 hct
            go_roundw
            case rel => exact ⟨q + 1, some ⟨g4, 0, none⟩, cap4, by omega, by go_num, rfl, by rw [decs_succ, ints_append]; exact R.1, R.2⟩
            case measure => simp [intOf]; omega
          · go_upto_region 35 with (fail)
            have HSn := (show Hid (∀ fs gs, _) from fun fs gs => snap_of (HB.out.later hBw HD.out.2.2) HD.out.1 (.inr hk1) fs gs)
            have hbl := HB.out.bel.trans (HD.out.2.2.mono (HB.out.size hBw))
            go_wp2_with fail
            go_ret2
            refine ⟨_, _, _, _, _, _, _, _, _, rfl, HSn.out _ _ rfl rfl, ?_, by omega⟩
            exact (hbl.alloc hbl.size _).alloc (by have := hbl.size; simp; omega) _
      · go_upto_region 35 with (fail)
        have HSn := (show Hid (∀ fs gs, _) from fun fs gs => snap_of (HB.out.later hBw HDz.out.2) HDz.out.1 (.inl rfl) fs gs)
        have hbl := HB.out.bel.trans (HDz.out.2.mono (HB.out.size hBw))
        go_wp2_with fail
        go_ret2
        refine ⟨_, _, _, _, _, _, _, _, _, rfl, HSn.out _ _ rfl rfl, ?_, by omega⟩
        exact (hbl.alloc hbl.size _).alloc (by have := hbl.size; simp; omega) _
end Go.Proofs.Ybulkaqbo
