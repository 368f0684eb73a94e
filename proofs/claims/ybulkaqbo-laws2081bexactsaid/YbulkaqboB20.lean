import Derived.Test.YbulkaqboB19
namespace Go.Proofs.Ybulkaqbo
open Go.RowKit

set_option maxHeartbeats 4000000 in
set_option maxRecDepth 100000 in
theorem bexact_walk (a0 : Option Addr) (n c0 : Nat) (p : Procs) (a1 : Option Addr) (m c1 : Nat) (O : Nat → Int) (w : World)
    (h0 : InProcs w a0 n p) (h1 : In1 w a1 m (fun i => .int .u8 (O i))) (hO : ∀ i, 0 ≤ O i ∧ O i ≤ 255) :
    Calls Yba.prog 5 #[.slice a0 n c0, .slice a1 m c1] w fun e w' => e = .returned (.bool true) ∧ Below w.heap.size w w' := by
  have H0 : Hid (InProcs w a0 n p) := h0
  have H1 : Hid (In1 w a1 m (fun i => .int .u8 (O i))) := h1
  have HO : Hid (∀ i, 0 ≤ O i ∧ O i ≤ 255) := hO
  clear h0 h1 hO
  refine callsIn_wide (n := 0).1 (callsIn_of_wp_marks Yba.func5 rfl trivial (wpIn_wide.2 ?_))
  simp only [Yba.ntmps5, List.size_toArray, List.length_cons, List.length_nil, Nat.reduceAdd, Nat.reduceSub, Array.replicate_succ,
     Array.replicate_zero, List.push_toArray, List.append_toArray, List.nil_append, List.cons_append]
  go_wp2_with fail
  refine (bok_any a0 n c0 a1 m c1 p w H0.out).mono ?_
  rintro e w' ⟨bb, rfl, hw, hok⟩
  have hw2 := hw.symm
  subst hw2
  clear hw
  cases bb with
  | false =>
    go_wp2_with fail
    exact ⟨.bool true, by simp [results, Yba.results5, go_sem], rfl, Below.refl _ _⟩
  | true =>
    obtain ⟨hn, hm, hL⟩ := hok rfl
    have HL : Hid (∀ i, i < n → p.tl i ≤ 1024) := hL
    clear hok hL
    go_wp2_with fail
    refine (bbuild_any a0 n c0 p a1 m c1 O w H0.out H1.out HO.out hn hm HL.out).mono ?_
    rintro e Wb ⟨sb, gb, b, m', dec, A, C, ad, cd, rfl, hS, hbl, hm'⟩
    have HS : Hid (Snap Wb sb gb b n m' p dec A C ad cd) := hS
    have HB : Hid (Below w.heap.size w Wb) := hbl
    clear hS hbl
    go_wp2_with fail
    refine (decl_any sb _).mono ?_
    rintro e w1 ⟨rfl, hw⟩
    go_wp2_with fail
    clear hw
    refine wp_rangeFunc_seq (gf := 28) rfl call28 (fun fn => ?_)
    have hsz : ((Wb.alloc (.cells #[.slice none 0 0] 42)).alloc (.cells #[.pointer (some ⟨sb, 0, none⟩)] 39)).heap.size = Wb.heap.size + 1 + 1 := by simp
    rw [hsz]
    clear hsz
    refine (ex_loop HS.out hn hm' HL.out H0.out.ndOk rfl rfl ?_).mono ?_
    · intro k W x q c hk hJ hC
      exact ex_round hJ hC (by omega) (by omega) (by omega) rfl rfl rfl rfl rfl rfl rfl rfl rfl rfl rfl rfl rfl rfl rfl rfl rfl rfl rfl rfl rfl rfl rfl rfl
    · rintro e W3 ⟨⟨v, rfl⟩, hJ⟩
      refine ⟨⟨v, rfl⟩, hJ.lp, ?_⟩
      have key : ∀ (o : Obj) (W : World), W3.putObj (Wb.heap.size + 1 + 1 + 1) o = W → ∃ ag cg X Q C, ExD Wb Wb.heap.size (Wb.heap.size + 1 + 1) n p dec m' ag cg X Q C W := fun o W e => e ▸ hJ.done (by omega) o
      clear hJ
      simp only [List.cons_append, List.nil_append]
      generalize hgen : W3.putObj (Wb.heap.size + 1 + 1 + 1) _ = W4
      obtain ⟨ag, cg, X, Qn, Cn, hD⟩ := key _ _ hgen
      clear hgen key
      have HD : Hid (ExD Wb Wb.heap.size (Wb.heap.size + 1 + 1) n p dec m' ag cg X Qn Cn W4) := hD
      have hgot := hD.gotC
      clear hD
      go_wp2_with fail
      clear hgot
      go_loopw [10] (fun x wr => ∃ i : Nat, i ≤ m' ∧ x = .int .i64 i ∧ W4.grownBy wr none) (fun x _ => m' - (intOf x).toNat)
      case atStart => exact ⟨0, Nat.zero_le _, rfl, ⟨rfl, rfl, rfl, Nat.le_refl _, fun _ _ _ => rfl⟩⟩
      case round =>
        obtain ⟨i, hi, rfl, hgr⟩ := hrel
        have HR : Hid (W4.grownBy wr none) := hgr
        have hDr := HD.out.grow hgr
        have hgot := hDr.gotC
        have HBw : Hid (Below w.heap.size w wr) := HB.out.trans (hDr.bel.mono HB.out.size)
        have HSr := (show Hid _ from HS.out.later hDr.bel)
        clear hgr
        by_cases hlt : i < m'
        · obtain ⟨g, eg, q0, q1, q2⟩ := hDr.at hlt
          have hcond := hDr.cond i hlt
          have HDr : Hid (ExD Wb Wb.heap.size (Wb.heap.size + 1 + 1) n p dec m' ag cg X Qn Cn wr) := hDr
          clear hDr
          subst eg
          have hdk := HSr.out.decOk i hlt
          obtain ⟨bd, od, e1, hcd⟩ : ∃ b o, ad = some ⟨b, o, none⟩ ∧ wr.cell? ⟨b, o + i, none⟩ = some (.int .i32 (dec i)) := by
            rcases HSr.out.dc with h | ⟨b, o, h1, _, h2⟩
            · omega
            · exact ⟨b, o, h1, h2 i hlt⟩
          subst e1
          obtain ⟨d, hd⟩ : ∃ d : Nat, dec i = d := ⟨(dec i).toNat, by omega⟩
          rw [hd] at hcd hdk hcond q0 q1
          rw [Int.toNat_natCast] at hcond q0 q1
          clear hd
          have hdn : d < n := by omega
          obtain ⟨bp, op, e2, hp0, hp1, hp2, hp3, hp4⟩ : ∃ b o, a0 = some ⟨b, o, none⟩ ∧ wr.cell? ⟨b, o + d * 5, none⟩ = some (.int .u8 (p.nm d)) ∧ wr.cell? ⟨b, o + d * 5 + 1, none⟩ = some (.int .i64 (p.ln d)) ∧
              wr.cell? ⟨b, o + d * 5 + 2, none⟩ = some (.bool (p.wt d)) ∧ wr.cell? ⟨b, o + d * 5 + 3, none⟩ = some (.int .u8 (p.nd d)) ∧ wr.cell? ⟨b, o + d * 5 + 4, none⟩ = some (.slice (p.ta d) (p.tl d) (p.tc d)) := by
            rcases (H0.out.below HBw.out).outer with h | ⟨b, o, h1, _, h2⟩
            · omega
            · exact ⟨b, o, h1, h2 d hdn⟩
          subst e2
          have HCd : Hid (CondOk wr n p d (.agg #[.slice (X i) (Qn i) (Cn i)])) := hcond
          clear hcond
          go_upto_region 15 with fail
          have gA := World.grownBy_alloc wr (.cells #[.int .u8 (p.nm d), .int .i64 (p.ln d), .bool (p.wt d), .int .u8 (p.nd d), .slice (p.ta d) (p.tl d) (p.tc d)] 52) none
          have hA := heap_alloc_new wr (.cells #[.int .u8 (p.nm d), .int .i64 (p.ln d), .bool (p.wt d), .int .u8 (p.nd d), .slice (p.ta d) (p.tl d) (p.tc d)] 52)
          have hgot2 := cellLater (below_of_grown gA) hgot
          have r0 := cellLater (below_of_grown gA) q0
          have r1 := cellLater (below_of_grown gA) q1
          have r2 := cellLater (below_of_grown gA) q2
          clear hgot q0 q1 q2 hp0 hp1 hp2 hp3 hp4 hcd
          generalize wr.alloc (.cells #[.int .u8 (p.nm d), .int .i64 (p.ln d), .bool (p.wt d), .int .u8 (p.nd d), .slice (p.ta d) (p.tl d) (p.tc d)] 52) = W5 at *
          have HA : Hid (W5.heap[wr.heap.size]? = some (.cells #[.int .u8 (p.nm d), .int .i64 (p.ln d), .bool (p.wt d), .int .u8 (p.nd d), .slice (p.ta d) (p.tl d) (p.tc d)] 52)) := hA
          have HgA : Hid (wr.grownBy W5 none) := gA
          clear hA gA
          go_upto_region 16 with fail
          have gB := World.grownBy_alloc W5 (.cells #[.int .i64 (p.ln d), .string (nameOf (p.nm d)), .slice (X i) (Qn i) (Cn i)] 50) none
          have hB := heap_alloc_new W5 (.cells #[.int .i64 (p.ln d), .string (nameOf (p.nm d)), .slice (X i) (Qn i) (Cn i)] 50)
          have hA2 := (gB.block wr.heap.size (Array.getElem?_eq_some_iff.1 HA.out).1 (by simp)).trans HA.out
          clear hgot2 r0 r1 r2
          generalize W5.alloc (.cells #[.int .i64 (p.ln d), .string (nameOf (p.nm d)), .slice (X i) (Qn i) (Cn i)] 50) = W6 at *
          have HgB : Hid (wr.grownBy W6 none) := grownBy_then HgA.out gB (by simp) (by simp)
          have HA2 : Hid (W6.heap[wr.heap.size]? = some (.cells #[.int .u8 (p.nm d), .int .i64 (p.ln d), .bool (p.wt d), .int .u8 (p.nd d), .slice (p.ta d) (p.tl d) (p.tc d)] 52)) := hA2
          have HB2 : Hid (W6.heap[W5.heap.size]? = some (.cells #[.int .i64 (p.ln d), .string (nameOf (p.nm d)), .slice (X i) (Qn i) (Cn i)] 50)) := hB
          have s0 : W6.cell? ⟨wr.heap.size, 0, none⟩ = some (.int .u8 (p.nm d)) := cellAt hA2 0
          have s1 : W6.cell? ⟨wr.heap.size, 1, none⟩ = some (.int .i64 (p.ln d)) := cellAt hA2 1
          have t0 : W6.cell? ⟨W5.heap.size, 0, none⟩ = some (.int .i64 (p.ln d)) := cellAt hB 0
          have t1 : W6.cell? ⟨W5.heap.size, 1, none⟩ = some (.string (nameOf (p.nm d))) := cellAt hB 1
          clear hA2 hB gB
          have hnm1 := (H0.out.nmOk d).1
          have hnm2 := (H0.out.nmOk d).2
          go_quiet (first
            | (refine Calls.quiet_of (name_quiet (p.nm d) hnm1 hnm2 _)))
          clear s0 s1 t0 t1
          have hA3 : (W6.drewN nq).heap[wr.heap.size]? = some (.cells #[.int .u8 (p.nm d), .int .i64 (p.ln d), .bool (p.wt d), .int .u8 (p.nd d), .slice (p.ta d) (p.tl d) (p.tc d)] 52) := HA2.out
          have hB3 : (W6.drewN nq).heap[W5.heap.size]? = some (.cells #[.int .i64 (p.ln d), .string (nameOf (p.nm d)), .slice (X i) (Qn i) (Cn i)] 50) := HB2.out
          have HgC : Hid (wr.grownBy (W6.drewN nq) none) := ⟨HgB.out.os, HgB.out.tape, HgB.out.output, HgB.out.size, HgB.out.block⟩
          generalize W6.drewN nq = W7 at *
          have s0 : W7.cell? ⟨wr.heap.size, 0, none⟩ = some (.int .u8 (p.nm d)) := cellAt hA3 0
          have s1 : W7.cell? ⟨wr.heap.size, 1, none⟩ = some (.int .i64 (p.ln d)) := cellAt hA3 1
          have s2 : W7.cell? ⟨wr.heap.size, 2, none⟩ = some (.bool (p.wt d)) := cellAt hA3 2
          have s3 : W7.cell? ⟨wr.heap.size, 3, none⟩ = some (.int .u8 (p.nd d)) := cellAt hA3 3
          have s4 : W7.cell? ⟨wr.heap.size, 4, none⟩ = some (.slice (p.ta d) (p.tl d) (p.tc d)) := cellAt hA3 4
          have t2 : W7.cell? ⟨W5.heap.size, 2, none⟩ = some (.slice (X i) (Qn i) (Cn i)) := cellAt hB3 2
          clear hA3 hB3
          go_wp2_with fail
          refine (waitok_any (HCd.out.below (below_of_grown HgC.out)) (H0.out.ndOk d) (HL.out d hdn) n (p.nm d) (p.ln d) (p.ta d) (p.tc d)).mono ?_
          rintro e W8 ⟨rfl, hg8⟩
          have u2 := cellLater (below_of_grown hg8) s2
          have u4' := cellLater (below_of_grown hg8) s4
          have v2 := cellLater (below_of_grown hg8) t2
          have Hg8 : Hid (wr.grownBy W8 none) := grownBy_then HgC.out hg8 (by simp) (by simp)
          clear s0 s1 s2 s3 s4 t2 hg8
          cases hwt : p.wt d with
          | false =>
            rw [hwt] at u2
            go_wp2_with fail
            go_roundw
            case rel => exact ⟨i + 1, by omega, by go_num, grownBy_then HR.out Hg8.out (by simp) (by simp)⟩
            case measure => simp [intOf]; omega
          | true =>
            rw [hwt] at u2
            rcases HCd.out.below (below_of_grown Hg8.out) with ⟨hf, _⟩ | ⟨_, gg, cg', gf, cf, gn, cn, k1, k2, k3, e, h1, h2, h3, h4, h5, h6, h7⟩
            · rw [hwt] at hf; cases hf
            have Hwt : Hid (p.wt d = true) := hwt
            clear hwt
            simp only [Value.agg.injEq, Array.mk.injEq, List.cons.injEq, Value.slice.injEq, and_true] at e
            obtain ⟨ex, eq, ec⟩ := e
            rw [ex, eq, ec] at v2
            have c1' : W8.cell? ⟨gg, 0, none⟩ = some (.slice (some ⟨gf, 0, none⟩) 1 cf) := (cellAt h1 0).trans h4
            have c2' : W8.cell? ⟨gf, 1, none⟩ = some (.slice (some ⟨gn, 0, none⟩) (p.tl d) cn) := (cellAt h2 1).trans h6
            have H7 : Hid (∀ j, j < p.tl d → W8.cell? ⟨gn, j, none⟩ = some (.string (nameOf (p.nm (p.td d j % n).toNat)))) := fun j hj => (cellAt h3 j).trans (h7 j hj)
            clear h1 h2 h3 h4 h5 h6 h7 ex eq ec
            generalize wr = W0 at *
            go_wp2_with fail
            clear u2 v2 c1' c2'
            have hLd := HL.out d hdn
            have hn0 : 0 < n := by omega
            go_loopw [14] (fun x wr => ∃ j : Nat, j ≤ p.tl d ∧ x = .int .i64 j ∧ W8.grownBy wr none) (fun x _ => p.tl d - (intOf x).toNat)
            case atStart => exact ⟨0, Nat.zero_le _, rfl, ⟨rfl, rfl, rfl, Nat.le_refl _, fun _ _ _ => rfl⟩⟩
            case round =>
              obtain ⟨j, hj, rfl, hgj⟩ := hrel
              have y4 := cellLater (below_of_grown hgj) u4'
              have HGj : Hid (W8.grownBy wr none) := hgj
              have HGw : Hid (W0.grownBy wr none) := grownBy_then Hg8.out hgj (by simp) (by simp)
              by_cases hjl : j < p.tl d
              · have y7 := cellLater (below_of_grown hgj) (H7.out j hjl)
                have hBw2 := HBw.out.trans ((below_of_grown HGw.out).mono HBw.out.size)
                obtain ⟨bt, ot, et, hct⟩ : ∃ b o, p.ta d = some ⟨b, o, none⟩ ∧ wr.cell? ⟨b, o + j, none⟩ = some (.int .u8 (p.td d j)) := by
                  rcases ((H0.out.below hBw2).inner d hdn) with h | ⟨b, o, h1, _, h2⟩
                  · omega
                  · exact ⟨b, o, h1, h2 j hjl⟩
                rw [et] at y4
                have ht1 := (H0.out.tdOk d j).1
                have ht2 := (H0.out.tdOk d j).2
                have hm1 : 0 ≤ p.td d j % (n : Int) := Int.emod_nonneg _ (by omega)
                have hm2 : p.td d j % (n : Int) < n := Int.emod_lt_of_pos _ (by omega)
                obtain ⟨qq, hqq⟩ : ∃ qq : Nat, p.td d j % (n : Int) = qq := ⟨(p.td d j % (n : Int)).toNat, by omega⟩
                rw [hqq, Int.toNat_natCast] at y7
                have hqn : qq < n := by omega
                have hpq : wr.cell? ⟨bp, op + qq * 5, none⟩ = some (.int .u8 (p.nm qq)) := by
                  rcases (H0.out.below hBw2).outer with h | ⟨b, o, h1, _, h2⟩
                  · omega
                  · cases h1
                    exact (h2 qq hqn).1
                have hnq1 := (H0.out.nmOk qq).1
                have hnq2 := (H0.out.nmOk qq).2
                clear hgj u4' et hBw2
                go_upto_region 26 with fail
                rw [hqq]
                go_quiet (first
                  | (refine Calls.quiet_of (name_quiet (p.nm qq) hnq1 hnq2 _)))
                go_wp2_with fail
                exact ⟨⟨j + 1, by omega, by go_num, ⟨HGj.out.os, HGj.out.tape, HGj.out.output, HGj.out.size, HGj.out.block⟩⟩, by simp [intOf]; omega⟩
              · clear hgj u4'
                go_wp2_with fail
                go_roundw
                case rel => exact ⟨i + 1, by omega, by go_num, grownBy_then HR.out HGw.out (by simp) (by simp)⟩
                case measure => simp [intOf]; omega
        · obtain rfl : i = m' := by omega
          have HDr : Hid (ExD Wb Wb.heap.size (Wb.heap.size + 1 + 1) n p dec i ag cg X Qn Cn wr) := hDr
          clear hDr
          go_wp2_with fail
          refine ⟨by simp, .inl ⟨Wb.heap.size + 1 + 1, _, rfl, run_takeDeferred HDr.out.dfr, .bool true, by simp [results, Yba.results5, go_sem], rfl, ?_⟩⟩
          exact HBw.out.grown (putObj_grown wr _ _) HBw.out.size (fun j e => by cases e; have := HB.out.size; omega)
end Go.Proofs.Ybulkaqbo
