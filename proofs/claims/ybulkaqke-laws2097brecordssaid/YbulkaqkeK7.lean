import Derived.Test.YbulkaqkeK6
namespace Go.Proofs.Ybulkaqke
open Go.RowKit Go.WideMaps Go.Maps

set_option maxHeartbeats 4000000 in
set_option maxRecDepth 100000 in
theorem records_walk (a : Option Addr) (n ac : Nat) (p : Gs) (c : ByteArray) (pa : Option Addr) (m pc : Nat) (pr : Nat → ByteArray) (W : World) (hin : InGs W a n p) (hpr : In1 W pa m (fun j => .string (pr j))) (hP : ∀ j, (pr j).size ≤ maxLen) (hc : c.size ≤ maxLen) :
    Calls Yba.prog 3 #[.slice a n ac, .string c, .slice pa m pc] W fun e w' => e = .returned (.bool true) ∧ Below W.heap.size W w' := by
  have hmm := @run_makeMap Yba.prog
  have HIN : Hid (InGs W a n p) := hin
  have HPR : Hid (In1 W pa m (fun j => .string (pr j))) := hpr
  have HP : Hid (∀ j, (pr j).size ≤ maxLen) := hP
  clear hin hpr hP
  have Hend : Below W.heap.size W W := Below.refl _ W
  go_enter Yba.func3, Yba.ntmps3
  by_cases hn : n ≤ 256
  case neg =>
    go_wp2_with fail
    go_ret
    exact ⟨by simp, Hend⟩
  by_cases hm : m ≤ 256
  case neg =>
    go_wp2_with fail
    go_ret
    exact ⟨by simp, Hend⟩
  go_wp2_with fail
  go_loopw [35] (fun x wr => ∃ j : Nat, j ≤ n ∧ x = .int .i64 j ∧ wr = W ∧ ∀ i, i < j → p.kl i ≤ 256) (fun x _ => n - (intOf x).toNat)
  case atStart => exact ⟨0, Nat.zero_le _, rfl, rfl, fun i hi => by omega⟩
  case round =>
    obtain ⟨j, hj, rfl, hwr, hkl⟩ := hrel
    have hwr' := hwr.symm
    subst hwr'
    clear hwr
    by_cases hlt : j < n
    · have ho := HIN.out.outer
      rcases ho with ho | ⟨b, o, rfl, hb, hcell⟩
      · omega
      obtain ⟨c0, c1, c2⟩ := hcell j hlt
      by_cases hk : p.kl j ≤ 256
      · go_wp2_with fail
        refine ⟨⟨j + 1, by omega, by simp, trivial, fun i hi => ?_⟩, ?_⟩
        · by_cases hij : i < j
          · exact hkl i hij
          · obtain rfl : i = j := by omega
            exact hk
        · simp [intOf]
          omega
      · go_wp2_with fail
        go_ret
        exact ⟨by simp, Hend⟩
    · obtain rfl : n = j := by omega
      have HKL := hid hkl
      clear hkl hlt Hend
      go_upto_region 12 with fail
      have HS := hid (st_start W)
      generalize ((((W.alloc (.map #[] 0)).alloc (.cells #[.slice none 0 0, .int .i64 0, .map none, .map (some W.heap.size)] 34)).alloc (.map #[] 0)).alloc (.cells #[] 9)) = W1 at *
      generalize W.heap.size + 1 + 1 + 1 = kb at *
      generalize W.heap.size + 1 + 1 = wb at *
      generalize W.heap.size + 1 = eb at *
      obtain ⟨mb, hmb⟩ : ∃ x, x = W.heap.size := ⟨_, rfl⟩
      rw [← hmb] at HS ⊢
      clear hmm hmb
      go_wp2_with fail
      go_loopw [10, 53] (fun y x wr => ∃ (j : Nat) (ka : Option Addr) (kc : Nat) (ks : List ByteArray), j ≤ m ∧ x = .int .i64 j ∧ y = .slice ka j kc ∧ ks.length = j ∧ St W wr mb eb wb j j (priorD pr j) (priorD pr j) ka kc ks) (fun _ x _ => m - (intOf x).toNat)
      case atStart => exact ⟨0, _, _, [], Nat.zero_le _, rfl, rfl, rfl, HS.out⟩
      case round =>
        obtain ⟨j, ka, kc, ks, hj2, rfl, rfl, hks, hst⟩ := hrel
        have HS2 := hid hst
        by_cases hlt : j < m
        · have hpr := HPR.out.below hst.bel
          rcases hpr with hpr | ⟨b, o, rfl, hb, hcell⟩
          · omega
          have c0 := hcell j hlt
          have e3 := hst.e3
          clear hst hcell
          go_upto_region 16 with (at_mapUpdate; refine wpList_put rfl (.tmp 60) (.tmp 61) _ rfl mb j _ (pr j) priorS rfl HS2.out.m1 (by unfold maxLen; omega) rfl rfl (HP.out j) (by decide) ?_; intro w2 hm2 hg2)
          have HS3 := hid (HS2.out.put1 hm2 hg2)
          clear hm2 hg2 c0 e3 HS2
          go_upto_region 17 with (at_mapUpdate; refine wpList_put rfl (.tmp 62) (.tmp 63) _ rfl wb j _ (pr j) priorS rfl HS3.out.m2 (by unfold maxLen; omega) rfl rfl (HP.out j) (by decide) ?_; intro w3 hm3 hg3)
          have HS4 := hid (HS3.out.put2 hm3 hg3)
          clear hm3 hg3 HS3
          go_wp2_with (at_builtin; refine wpList_key rfl (.tmp 64) (.tmp 66) rfl j hks (pr j) rfl rfl HS4.out (HP.out j) (by omega) ?_; intro g cap w4 hs5 _)
          refine ⟨⟨j + 1, some ⟨g, 0, none⟩, cap, ks ++ [pr j], by omega, by simp, by simp, by simp [hks], hs5⟩, ?_⟩
          simp [intOf]
          omega
        · obtain rfl : m = j := by omega
          clear hst hlt hj2
          have hmk := run_make_mine (P := Yba.prog) 35 41 _ 13 152 Yba.underlying35 Yba.info41 .i64 .i64 n n rfl (by omega) (by omega)
          go_upto_region 20 with fail
          have HT : Hid (Top ((wr.alloc (.cells (madeCells (leafV { data := #[] } (.slice none 0 0)) (n * 13)) 41)).alloc (.cells #[.string { data := #[116, 111, 112] }, .int .i64 0, .int .i64 0, .slice none 0 0, .int .u64 0, .int .u64 0, .int .i64 0, .string { data := #[] }, .slice (some ⟨wr.heap.size, 0, none⟩) 0 n, .bool false, .int .u64 0, .int .i64 0, .int .i64 0] 41)) W.heap.size (wr.heap.size + 1 + 1) (wr.heap.size + 1) wr.heap.size n 0 p.grp (fun _ => ⟨none, 0, 0⟩)) :=
            Top.start wr W.heap.size n hn HS2.out.bel.size (madeCells (leafV { data := #[] } (.slice none 0 0)) (n * 13)) (by simp [madeCells]) p.grp (fun _ => ⟨none, 0, 0⟩)
          have HS3 := hid (((HS2.out).more (World.grownBy_alloc wr (.cells (madeCells (leafV { data := #[] } (.slice none 0 0)) (n * 13)) 41) none)).more (World.grownBy_alloc _ (.cells #[.string { data := #[116, 111, 112] }, .int .i64 0, .int .i64 0, .slice none 0 0, .int .u64 0, .int .u64 0, .int .i64 0, .string { data := #[] }, .slice (some ⟨wr.heap.size, 0, none⟩) 0 n, .bool false, .int .u64 0, .int .i64 0, .int .i64 0] 41) none))
          have hsz : wr.heap.size + 1 + 1 ≤ ((wr.alloc (.cells (madeCells (leafV { data := #[] } (.slice none 0 0)) (n * 13)) 41)).alloc (.cells #[.string { data := #[116, 111, 112] }, .int .i64 0, .int .i64 0, .slice none 0 0, .int .u64 0, .int .u64 0, .int .i64 0, .string { data := #[] }, .slice (some ⟨wr.heap.size, 0, none⟩) 0 n, .bool false, .int .u64 0, .int .i64 0, .int .i64 0] 41)).heap.size := by simp
          clear HS2 hmk
          generalize ((wr.alloc (.cells (madeCells (leafV { data := #[] } (.slice none 0 0)) (n * 13)) 41)).alloc (.cells #[.string { data := #[116, 111, 112] }, .int .i64 0, .int .i64 0, .slice none 0 0, .int .u64 0, .int .u64 0, .int .i64 0, .string { data := #[] }, .slice (some ⟨wr.heap.size, 0, none⟩) 0 n, .bool false, .int .u64 0, .int .i64 0, .int .i64 0] 41)) = W2 at *
          generalize wr.heap.size + 1 + 1 = F0 at *
          generalize wr.heap.size + 1 = pb at *
          generalize wr.heap.size = tb0 at *
          clear wr
          go_wp2_with fail
          go_loopw [10, 75] (fun y x wr => ∃ (i : Nat) (ka : Option Addr) (kc : Nat) (ks : List ByteArray) (L F tb ct : Nat) (mem : Nat → Mem), i ≤ n ∧ x = .int .i64 i ∧ y = .slice ka L kc ∧ ks.length = L ∧ L ≤ 256 + i * 257 ∧ St W wr mb eb wb m (grpsN p.grp m i) (priorD pr m) (grpsD c p.grp (priorD pr m) i) ka kc ks ∧ Top wr W.heap.size F pb tb ct i p.grp mem ∧ F ≤ wr.heap.size) (fun _ x _ => n - (intOf x).toNat)
          case atStart => exact ⟨0, ka, kc, ks, m, F0, tb0, n, _, Nat.zero_le _, rfl, rfl, hks, by omega, HS3.out, HT.out, hsz⟩
          case round =>
            clear HS3 HT hsz hks
            obtain ⟨i, ka, kc, ks, L, F, tb, ct, mem, hi, rfl, rfl, hks, hL, hst, htop, hF⟩ := hrel
            have HS4 := hid hst
            have HT4 := hid htop
            have hNN : grpsN p.grp m i ≤ m + i * 256 := grpsN_le p.grp m i (fun q hq => HKL.out q (by omega))
            clear hst htop
            by_cases hlt : i < n
            · rcases (HIN.out.below HS4.out.bel).outer with hpr | ⟨b, o, rfl, hb, hcell⟩
              · omega
              obtain ⟨c0, c1, c2⟩ := hcell i hlt
              have HKI := hid (HIN.out.inner i hlt)
              generalize p.ka i = kka at c1 HKI
              clear hcell
              go_upto_region 23 with fail
              have gA := World.grownBy_alloc wr (.cells #[.string (p.name i), .slice kka (p.kl i) (p.kc i), .bool (p.leaf i)] 25) none
              have HG4 := hid (Gb.new wr (p.name i) kka (p.kl i) (p.kc i) (p.leaf i))
              have HS5 := hid (HS4.out.more gA)
              have HT5 := hid ((HT4.out.kept gA (fun x hx => by cases hx)))
              have hF5 := Nat.le_trans hF gA.size
              clear HS4 HT4 hF gA c0 c1 c2
              generalize wr.alloc (.cells #[.string (p.name i), .slice kka (p.kl i) (p.kc i), .bool (p.leaf i)] 25) = w5 at *
              generalize wr.heap.size = hb5 at *
              clear wr
              have d0 := HG4.out.c0
              go_upto_region 24 with (at_builtin; refine wpList_key rfl (.tmp 79) (.tmp 82) rfl L hks (p.name i) rfl rfl HS5.out (HIN.out.nameOk i) (by omega) ?_; intro g6 cap6 w6 hs6 hg6)
              have HS6 := hid hs6
              have HT6 := hid (HT5.out.kept hg6 (fun x hx => .inr (not_tag (HS5.out.ky.tag hx) (by decide))))
              have HG6 := hid (HG4.out.kept hg6 (fun x hx => not_tag (HS5.out.ky.tag hx) (by decide)))
              have hF6 := Nat.le_trans hF5 hg6.size
              have hks6 : (ks ++ [p.name i]).length = L + 1 := by simp [hks]
              clear HS5 HT5 HG4 hF5 hs6 hg6 d0 hks
              generalize ks ++ [p.name i] = ks6 at *
              have d0 := HG6.out.c0
              have d2 := HG6.out.c2
              cases hleaf : p.leaf i with
              | true =>
                rw [hleaf] at d2
                have c8 := HT6.out.c8
                go_upto_region 26 with (at_builtin; refine wpList_elem (w := w6) rfl (.tmp 87) (.tmp 91) rfl tb i ct _ (p.name i) ⟨none, 0, 0⟩ rfl rfl HT6.out.row (by omega) ?_; intro g7 cap7 w7 ho7 hg7 hw7; obtain ⟨c8', f8'⟩ := (HT6.out.kept (World.grownBy_alloc w6 (.cells (leafV (p.name i) (Mem.val ⟨none, 0, 0⟩)) 41) none) (fun x hx => by cases hx)).c8' hg7)
                obtain ⟨hs8, ht8, _⟩ := top_step (hb := hb5) (s := p.name i) (ka' := kka) (kl := p.kl i) (kc' := p.kc i) (l := p.leaf i) HS6.out HT6.out hF6 ⟨none, 0, 0⟩ (by simp [MemRow, Gs.grp, hleaf]) (fun x hx => by cases hx) ho7 hg7 hw7
                have hg8 := (top_step (hb := hb5) (s := p.name i) (ka' := kka) (kl := p.kl i) (kc' := p.kc i) (l := p.leaf i) HS6.out HT6.out hF6 ⟨none, 0, 0⟩ (by simp [MemRow, Gs.grp, hleaf]) (fun x hx => by cases hx) ho7 hg7 hw7).2.2 HG6.out
                have hF8 : w7.heap.size ≤ (w7.setCell ⟨pb, 8, none⟩ (.slice (some ⟨g7, 0, none⟩) (i + 1) cap7)).heap.size := (grownBy_setCell w7 ⟨pb, 8, none⟩ _).size
                have HS8 := hid hs8
                have HT8 := hid ht8
                have e0 := hg8.c0
                clear hs8 ht8 hg8 ho7 hg7 hw7 c8 c8' f8' d0 d2 HS6 HT6 HG6 hF6
                generalize w7.setCell ⟨pb, 8, none⟩ (.slice (some ⟨g7, 0, none⟩) (i + 1) cap7) = w8 at *
                go_wp2_with (at_mapUpdate; refine wpList_put rfl (.tmp 94) (.tmp 96) (.tmp 97) rfl wb _ _ (p.name i) c rfl HS8.out.m2 (by unfold maxLen; omega) rfl rfl (HIN.out.nameOk i) hc ?_; intro w9 hm9 hg9)
                refine ⟨⟨i + 1, some ⟨g6, 0, none⟩, cap6, ks6, L + 1, w7.heap.size, g7, cap7, _, by omega, by simp, by simp, hks6, by omega, ?_, HT8.out.kept hg9 ?_, Nat.le_trans hF8 hg9.size⟩, ?_⟩
                · have hgl : (p.grp i).leaf = true := hleaf
                  rw [grpsN, grpsD, if_pos hgl, if_pos hgl]
                  exact HS8.out.put2 hm9 hg9
                · intro x hx
                  cases hx
                  exact .inr (HS8.out.m2.no _)
                · simp [intOf]
                  omega
              | false =>
                rw [hleaf] at d2
                have d1 := HG6.out.c1
                have hkl := HKL.out i (by omega)
                have hmk := run_make_mine (P := Yba.prog) 35 41 _ 13 152 Yba.underlying35 Yba.info41 .i64 .i64 (p.kl i) (p.kl i) rfl (by omega) (by omega)
                have hlt6 : hb5 < w6.heap.size := World.block_lt_of_cell? w6 _ d0
                have a0 : ∀ o, (w6.alloc o).cell? ⟨hb5, 0, none⟩ = some (.string (p.name i)) := fun o => (World.cell?_alloc_lt _ _ _ hlt6).trans d0
                have a1 : ∀ o, (w6.alloc o).cell? ⟨hb5, 1, none⟩ = some (.slice kka (p.kl i) (p.kc i)) := fun o => (World.cell?_alloc_lt _ _ _ hlt6).trans d1
                have b0 : ∀ o o', ((w6.alloc o).alloc o').cell? ⟨hb5, 0, none⟩ = some (.string (p.name i)) := fun o o' => (World.cell?_alloc_lt _ _ _ (by simp; omega)).trans (a0 o)
                go_upto_region 27 with fail
                go_region
                focus
                  obtain ⟨gr7, ge7⟩ : w6.grownBy ((w6.alloc (.cells (madeCells (leafV { data := #[] } (.slice none 0 0)) (p.kl i * 13)) 41)).alloc (.cells #[.string (p.name i), .int .i64 0, .int .i64 0, .slice none 0 0, .int .u64 0, .int .u64 0, .int .i64 0, .string { data := #[] }, .slice (some ⟨w6.heap.size, 0, none⟩) 0 (p.kl i), .bool false, .int .u64 0, .int .i64 0, .int .i64 0] 41)).drew none ∧ Ge ((w6.alloc (.cells (madeCells (leafV { data := #[] } (.slice none 0 0)) (p.kl i * 13)) 41)).alloc (.cells #[.string (p.name i), .int .i64 0, .int .i64 0, .slice none 0 0, .int .u64 0, .int .u64 0, .int .i64 0, .string { data := #[] }, .slice (some ⟨w6.heap.size, 0, none⟩) 0 (p.kl i), .bool false, .int .u64 0, .int .i64 0, .int .i64 0] 41)).drew w6.heap.size (w6.heap.size + 1) w6.heap.size (p.kl i) 0 (p.name i) (p.kid i) :=
                    made_ge1 w6 (p.kl i) (p.name i) (p.kid i) (madeCells (leafV { data := #[] } (.slice none 0 0)) (p.kl i * 13)) hkl (by simp [madeCells])
                  have HI := hid (In4.start HS6.out HT6.out HG6.out hF6 gr7 ge7)
                  clear gr7 ge7 hmk a0 a1 b0 d0 d1 d2
                  generalize ((w6.alloc (.cells (madeCells (leafV { data := #[] } (.slice none 0 0)) (p.kl i * 13)) 41)).alloc (.cells #[.string (p.name i), .int .i64 0, .int .i64 0, .slice none 0 0, .int .u64 0, .int .u64 0, .int .i64 0, .string { data := #[] }, .slice (some ⟨w6.heap.size, 0, none⟩) 0 (p.kl i), .bool false, .int .u64 0, .int .i64 0, .int .i64 0] 41)).drew = w7 at *
                  generalize w6.heap.size + 1 = qb at *
                  obtain ⟨gb, hgb⟩ : ∃ x, x = w6.heap.size := ⟨_, rfl⟩
                  obtain ⟨F7, hF7⟩ : ∃ x, x = w6.heap.size := ⟨_, rfl⟩
                  have HI7 : Hid (In4 W w7 mb eb wb m (grpsN p.grp m i) (priorD pr m) (grpsD c p.grp (priorD pr m) i) (some ⟨g6, 0, none⟩) cap6 ks6 F7 pb tb ct i p.grp mem hb5 (p.name i) kka (p.kl i) (p.kc i) (p.leaf i) qb gb (p.kl i) 0) := by rw [hF7, hgb]; exact HI.out
                  clear HI HS6 HT6 HG6 hF6 hlt6
                  rw [← hgb]
                  clear hgb hF7 w6
                rotate_left
                focus
                  obtain ⟨gr7, ge7⟩ : w6.grownBy ((w6.alloc (.cells #[.string (p.name i), .int .i64 0, .int .i64 0, .slice none 0 0, .int .u64 0, .int .u64 0, .int .i64 0, .string { data := #[] }, .slice (some ⟨w6.heap.size + 1, 0, none⟩) 0 (p.kl i), .bool false, .int .u64 0, .int .i64 0, .int .i64 0] 41)).alloc (.cells (madeCells (leafV { data := #[] } (.slice none 0 0)) (p.kl i * 13)) 41)).drew none ∧ Ge ((w6.alloc (.cells #[.string (p.name i), .int .i64 0, .int .i64 0, .slice none 0 0, .int .u64 0, .int .u64 0, .int .i64 0, .string { data := #[] }, .slice (some ⟨w6.heap.size + 1, 0, none⟩) 0 (p.kl i), .bool false, .int .u64 0, .int .i64 0, .int .i64 0] 41)).alloc (.cells (madeCells (leafV { data := #[] } (.slice none 0 0)) (p.kl i * 13)) 41)).drew w6.heap.size w6.heap.size (w6.heap.size + 1) (p.kl i) 0 (p.name i) (p.kid i) :=
                    made_ge2 w6 (p.kl i) (p.name i) (p.kid i) (madeCells (leafV { data := #[] } (.slice none 0 0)) (p.kl i * 13)) hkl (by simp [madeCells])
                  have HI := hid (In4.start HS6.out HT6.out HG6.out hF6 gr7 ge7)
                  clear gr7 ge7 hmk a0 a1 b0 d0 d1 d2
                  generalize ((w6.alloc (.cells #[.string (p.name i), .int .i64 0, .int .i64 0, .slice none 0 0, .int .u64 0, .int .u64 0, .int .i64 0, .string { data := #[] }, .slice (some ⟨w6.heap.size + 1, 0, none⟩) 0 (p.kl i), .bool false, .int .u64 0, .int .i64 0, .int .i64 0] 41)).alloc (.cells (madeCells (leafV { data := #[] } (.slice none 0 0)) (p.kl i * 13)) 41)).drew = w7 at *
                  generalize w6.heap.size + 1 = gb at *
                  obtain ⟨qb, hgb⟩ : ∃ x, x = w6.heap.size := ⟨_, rfl⟩
                  obtain ⟨F7, hF7⟩ : ∃ x, x = w6.heap.size := ⟨_, rfl⟩
                  have HI7 : Hid (In4 W w7 mb eb wb m (grpsN p.grp m i) (priorD pr m) (grpsD c p.grp (priorD pr m) i) (some ⟨g6, 0, none⟩) cap6 ks6 F7 pb tb ct i p.grp mem hb5 (p.name i) kka (p.kl i) (p.kc i) (p.leaf i) qb gb (p.kl i) 0) := by rw [hF7, hgb]; exact HI.out
                  clear HI HS6 HT6 HG6 hF6 hlt6
                  rw [← hgb]
                  clear hgb hF7 w6
                all_goals
                  have d1 := HI7.out.gr.c1
                  go_wp2_with fail
                  clear d1
                  go_loopw [10, 108] (fun y x wq => ∃ (k : Nat) (ka : Option Addr) (kc : Nat) (ks : List ByteArray) (gb cg : Nat), k ≤ p.kl i ∧ x = .int .i64 k ∧ y = .slice ka (L + 1 + k) kc ∧ ks.length = L + 1 + k ∧ In4 W wq mb eb wb m (grpsN p.grp m i + k) (priorD pr m) (kidsD c (p.kid i) (grpsD c p.grp (priorD pr m) i) k) ka kc ks F7 pb tb ct i p.grp mem hb5 (p.name i) kka (p.kl i) (p.kc i) (p.leaf i) qb gb cg k) (fun _ x _ => p.kl i - (intOf x).toNat)
                  case atStart => exact ⟨0, _, _, _, _, _, Nat.zero_le _, rfl, rfl, hks6, HI7.out⟩
                  case round =>
                    clear HI7 hks6
                    obtain ⟨k, ka9, kc9, ks9, gb9, cg9, hk, rfl, rfl, hks9, hi9⟩ := hrel
                    have HI9 := hid hi9
                    clear hi9
                    by_cases hklt : k < p.kl i
                    · rcases HKI.out.below HI9.out.st.bel with h0 | ⟨b', o', rfl, hb', hcell'⟩
                      · omega
                      have ck := hcell' k hklt
                      have c8 := HI9.out.ge.c8
                      clear hcell'
                      go_upto_region 32 with (at_builtin; refine wpList_elem (w := wr) rfl (.tmp 113) (.tmp 116) rfl gb9 k cg9 _ (p.kid i k) ⟨none, 0, 0⟩ rfl rfl HI9.out.ge.row (by omega) ?_; intro g8 cap8 w8 ho8 hg8 hw8; obtain ⟨c8', f8'⟩ := (HI9.out.ge.kept (World.grownBy_alloc wr (.cells (leafV (p.kid i k) (Mem.val ⟨none, 0, 0⟩)) 41) none) (fun x hx => by cases hx)).c8' hg8)
                      have HI10 := hid (HI9.out.elem ho8 hg8 hw8)
                      clear ho8 hg8 hw8 c8' f8' c8 ck HI9
                      generalize w8.setCell ⟨qb, 8, none⟩ (.slice (some ⟨g8, 0, none⟩) (k + 1) cap8) = w9 at *
                      go_upto_region 33 with (at_mapUpdate; refine wpList_put rfl (.tmp 119) (.tmp 120) (.tmp 121) rfl wb _ _ (p.kid i k) c rfl HI10.out.st.m2 (by unfold maxLen; omega) rfl rfl (HIN.out.kidOk i k) hc ?_; intro w10 hm10 hg10)
                      have HI11 := hid (HI10.out.put hm10 hg10)
                      clear hm10 hg10 HI10
                      go_wp2_with (at_builtin; refine wpList_key rfl (.tmp 122) (.tmp 124) rfl (L + 1 + k) hks9 (p.kid i k) rfl rfl HI11.out.st (HIN.out.kidOk i k) (by omega) ?_; intro g11 cap11 w11 hs11 hg11)
                      refine ⟨⟨k + 1, some ⟨g11, 0, none⟩, cap11, ks9 ++ [p.kid i k], g8, cap8, by omega, by simp, rfl, by simp [hks9]; omega, HI11.out.key hs11 hg11⟩, ?_⟩
                      simp [intOf]
                      omega
                    · obtain rfl : k = p.kl i := by omega
                      have HB := hid HI9.out.ge.box
                      have r0 : wr.cell? ⟨qb, 0, none⟩ = some (.string (p.name i)) := box_at HB.out 0 _ rfl
                      have r1 : wr.cell? ⟨qb, 1, none⟩ = some (.int .i64 0) := box_at HB.out 1 _ rfl
                      have r2 : wr.cell? ⟨qb, 2, none⟩ = some (.int .i64 0) := box_at HB.out 2 _ rfl
                      have r3 : wr.cell? ⟨qb, 3, none⟩ = some (.slice none 0 0) := box_at HB.out 3 _ rfl
                      have r4 : wr.cell? ⟨qb, 4, none⟩ = some (.int .u64 0) := box_at HB.out 4 _ rfl
                      have r5 : wr.cell? ⟨qb, 5, none⟩ = some (.int .u64 0) := box_at HB.out 5 _ rfl
                      have r6 : wr.cell? ⟨qb, 6, none⟩ = some (.int .i64 0) := box_at HB.out 6 _ rfl
                      have r7 : wr.cell? ⟨qb, 7, none⟩ = some (.string { data := #[] }) := box_at HB.out 7 _ rfl
                      have r8 : wr.cell? ⟨qb, 8, none⟩ = some (.slice (some ⟨gb9, 0, none⟩) (p.kl i) cg9) := box_at HB.out 8 _ rfl
                      have r9 : wr.cell? ⟨qb, 9, none⟩ = some (.bool false) := box_at HB.out 9 _ rfl
                      have r10 : wr.cell? ⟨qb, 10, none⟩ = some (.int .u64 0) := box_at HB.out 10 _ rfl
                      have r11 : wr.cell? ⟨qb, 11, none⟩ = some (.int .i64 0) := box_at HB.out 11 _ rfl
                      have r12 : wr.cell? ⟨qb, 12, none⟩ = some (.int .i64 0) := box_at HB.out 12 _ rfl
                      have c8 := HI9.out.top.c8
                      go_wp2_with (at_builtin; refine wpList_elem (w := wr) rfl (.tmp 128) (.tmp 130) rfl tb i ct _ (p.name i) ⟨some ⟨gb9, 0, none⟩, p.kl i, cg9⟩ rfl rfl HI9.out.top.row (by omega) ?_; intro g8 cap8 w8 ho8 hg8 hw8; obtain ⟨c8', f8'⟩ := (HI9.out.top.kept (World.grownBy_alloc wr (.cells (leafV (p.name i) (Mem.val ⟨some ⟨gb9, 0, none⟩, p.kl i, cg9⟩)) 41) none) (fun x hx => by cases hx)).c8' hg8; clear c8 r0 r1 r2 r3 r4 r5 r6 r7 r8 r9 r10 r11 r12)
                      have hgl : (p.grp i).leaf = false := hleaf
                      have hmr : MemRow wr (p.grp i) ⟨some ⟨gb9, 0, none⟩, p.kl i, cg9⟩ := by
                        unfold MemRow
                        rw [if_neg (by rw [hgl]; decide)]
                        exact ⟨gb9, cg9, rfl, HI9.out.ge.row⟩
                      have hmf : ∀ x, blk (Mem.mk (some ⟨gb9, 0, none⟩) (p.kl i) cg9).a = some x → F7 ≤ x ∧ x < wr.heap.size := by
                        intro x hx
                        cases hx
                        exact ⟨HI9.out.ge.gF, HI9.out.ge.row.lt gb9 rfl⟩
                      obtain ⟨hs12, ht12, _⟩ := top_step (hb := hb5) (s := p.name i) (ka' := kka) (kl := p.kl i) (kc' := p.kc i) (l := p.leaf i) HI9.out.st HI9.out.top HI9.out.fr _ hmr hmf ho8 hg8 hw8
                      refine ⟨⟨i + 1, ka9, kc9, ks9, L + 1 + p.kl i, w8.heap.size, g8, cap8, _, by omega, by simp, by simp, hks9, by omega, ?_, ht12, (grownBy_setCell w8 ⟨pb, 8, none⟩ _).size⟩, ?_⟩
                      · rw [grpsN, grpsD, if_neg (by rw [hgl]; decide), if_neg (by rw [hgl]; decide)]
                        exact hs12
                      · simp [intOf]
                        omega
            · obtain rfl : n = i := by omega
              clear hlt hi
              go_upto_region 38 with (at_builtin; refine wpList_key rfl (.tmp 134) (.tmp 135) rfl L hks topS rfl rfl HS4.out (by decide) (by omega) ?_; intro g5 cap5 w5 hs5 hg5)
              have HS5 := hid hs5
              have HT5 := hid (HT4.out.kept hg5 (fun x hx => .inr (not_tag (HS4.out.ky.tag hx) (by decide))))
              have hks5 : (ks ++ [topS]).length = L + 1 := by simp [hks]
              clear hs5 hg5 HS4 HT4 hF hks
              generalize ks ++ [topS] = ks5 at *
              have HB := hid HT5.out.box
              have r0 : w5.cell? ⟨pb, 0, none⟩ = some (.string { data := #[116, 111, 112] }) := box_at HB.out 0 _ rfl
              have r1 : w5.cell? ⟨pb, 1, none⟩ = some (.int .i64 0) := box_at HB.out 1 _ rfl
              have r2 : w5.cell? ⟨pb, 2, none⟩ = some (.int .i64 0) := box_at HB.out 2 _ rfl
              have r3 : w5.cell? ⟨pb, 3, none⟩ = some (.slice none 0 0) := box_at HB.out 3 _ rfl
              have r4 : w5.cell? ⟨pb, 4, none⟩ = some (.int .u64 0) := box_at HB.out 4 _ rfl
              have r5 : w5.cell? ⟨pb, 5, none⟩ = some (.int .u64 0) := box_at HB.out 5 _ rfl
              have r6 : w5.cell? ⟨pb, 6, none⟩ = some (.int .i64 0) := box_at HB.out 6 _ rfl
              have r7 : w5.cell? ⟨pb, 7, none⟩ = some (.string { data := #[] }) := box_at HB.out 7 _ rfl
              have r8 : w5.cell? ⟨pb, 8, none⟩ = some (.slice (some ⟨tb, 0, none⟩) n ct) := box_at HB.out 8 _ rfl
              have r9 : w5.cell? ⟨pb, 9, none⟩ = some (.bool false) := box_at HB.out 9 _ rfl
              have r10 : w5.cell? ⟨pb, 10, none⟩ = some (.int .u64 0) := box_at HB.out 10 _ rfl
              have r11 : w5.cell? ⟨pb, 11, none⟩ = some (.int .i64 0) := box_at HB.out 11 _ rfl
              have r12 : w5.cell? ⟨pb, 12, none⟩ = some (.int .i64 0) := box_at HB.out 12 _ rfl
              go_wp2_with fail
              clear r0 r1 r2 r3 r4 r5 r6 r7 r8 r9 r10 r11 r12
              refine (leave_top eb mb m (priorD pr m) topS c tb ct n p.grp mem w5 HS5.out.e3 HS5.out.m1 (by unfold maxLen; omega) hn (fun q hq => HKL.out q hq) hc (fun q _ => ⟨HIN.out.nameOk q, fun z _ => HIN.out.kidOk q z⟩) (elRow_of HT5.out.row) (fun q hq => (HT5.out.mems q hq).ok)).mono ?_
              rintro e w6 ⟨rfl, hm6, hg6⟩
              have HS6 := hid (HS5.out.put1 hm6 hg6)
              clear HS5 HT5 HB hm6 hg6
              have e3 := HS6.out.e3
              generalize grpsD c p.grp (priorD pr m) n = DD at *
              go_upto_region 41 with (at_len; first | refine wpList_len_own _ rfl (.tmp 144) 27 rfl 9 9 Yba.underlying27 (plainElem Yba.prog 9) mb _ DD rfl HS6.out.m1 ?_ | refine wpList_len_own _ rfl (.tmp 146) 27 rfl 9 9 Yba.underlying27 (plainElem Yba.prog 9) wb _ DD rfl HS6.out.m2 ?_)
              go_wp2_with fail
              clear e3
              go_loopw [151] (fun x wr => ∃ j : Nat, j ≤ L + 1 ∧ x = .int .i64 j ∧ wr = w6) (fun x _ => L + 1 - (intOf x).toNat)
              case atStart => exact ⟨0, Nat.zero_le _, rfl, rfl⟩
              case round =>
                obtain ⟨j, hj, rfl, hwr⟩ := hrel
                have hwr' := hwr.symm
                subst hwr'
                clear hwr
                by_cases hlt : j < L + 1
                · obtain ⟨s, hs⟩ : ∃ s, ks5[j]? = some s := ⟨ks5[j]'(by omega), List.getElem?_eq_getElem (by omega)⟩
                  have hsz := HS6.out.kz s (List.mem_of_getElem? hs)
                  have c0 : w6.cell? ⟨g5, j, none⟩ = some (.string s) := HS6.out.ky.cell (by simp [hs])
                  have e3 := HS6.out.e3
                  go_upto_region 45 with (at_lookup; refine wpList_lookup_str _ rfl (.tmp 159) (.tmp 160) 27 rfl 9 9 law Yba.underlying27 Yba.underlying9 (zero9 _) mb _ DD rfl HS6.out.m1 (.string s) (key s) rfl (key_of hsz) ?_; intro x1 hx1)
                  go_upto_region 46 with (at_lookup; refine wpList_lookup_str _ rfl (.tmp 165) (.tmp 166) 27 rfl 9 9 law Yba.underlying27 Yba.underlying9 (zero9 _) wb _ DD rfl HS6.out.m2 (.string s) (key s) rfl (key_of hsz) ?_; intro x2 hx2)
                  have ecc : x2 = x1 := by
                    rw [hx1] at hx2
                    simp at hx2
                    have h2 : x1.data = x2.data := hx2
                    cases x1
                    cases x2
                    simp at h2
                    rw [h2]
                  subst ecc
                  clear hx1 hx2 c0 e3
                  generalize Maps.has DD (key s) = has at *
                  go_wp2_with fail
                  refine ⟨⟨j + 1, by omega, by simp, trivial⟩, ?_⟩
                  simp [intOf]
                  omega
                · go_wp2_with fail
                  go_ret
                  exact ⟨by simp, HS6.out.bel⟩
end Go.Proofs.Ybulkaqke
