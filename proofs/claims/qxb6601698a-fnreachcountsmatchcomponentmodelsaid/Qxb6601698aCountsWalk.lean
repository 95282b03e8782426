/- Walk: FnReachCountsMatchComponentModel. -/
import Derived.Test.Qxb6601698aSwapWalk
import Derived.Test.Qxb6601698aSide
import Derived.Test.Qxb6601698aSame
namespace Go.Proofs.Qxb6601698a
open Go.RowKit Go.Maps

set_option maxHeartbeats 8000000 in
set_option maxRecDepth 100000 in
theorem counts_any (r0 : Option Nat) (D0 : DataW Unit) (an ad au am ac ag : Option Addr) (n nd nu k nc gn cn cd cu cm cc cg : Nat) (S : Nat → ByteArray) (Ld Lu Lm : Nat → Nat) (Zd Zu Zm : Nat → Nat → Int) (Cm : Nat → Int) (G : Nat → ByteArray) (w : World)
    (hszm : Maps.size D0 ≤ maxLen) (hn : n ≤ maxLen) (hnd : nd ≤ maxLen) (hnu : nu ≤ maxLen) (hk : k ≤ maxLen) (hnc : nc ≤ maxLen) (hgn : gn ≤ maxLen)
    (hLd : ∀ i, i < nd → Ld i ≤ 9223372036854775807) (hLu : ∀ i, i < nu → Lu i ≤ 9223372036854775807) (hLm : ∀ i, i < k → Lm i ≤ 9223372036854775807)
    (hS : ∀ i, i < n → (S i).size ≤ maxLen) (hG : ∀ i, i < gn → (G i).size ≤ maxLen)
    (hM : MapAt w 0 (.map r0) D0) (hN : Row w 0 an n (fun i => .string (S i))) (hDd : Mat w 0 ad nd Ld Zd) (hDu : Mat w 0 au nu Lu Zu) (hDm : Mat w 0 am k Lm Zm) (hC : Row w 0 ac nc (fun i => .int .i64 (Cm i))) (hGr : Row w 0 ag gn (fun i => .string (G i))) :
    Calls Try.prog 3 #[.map r0, .slice an n cn, .slice ad nd cd, .slice au nu cu, .slice am k cm, .slice ac nc cc, .slice ag gn cg] w fun e w' => RetTrue w e w' := by
  have hlen := hM.len
  unfold maxLen at hszm hn hnd hnu hk hnc hgn
  by_cases hle : Maps.size D0 ≤ 65536 ∧ n ≤ 65536 ∧ nd ≤ 65536 ∧ nu ≤ 65536 ∧ k ≤ 65536 ∧ nc ≤ 65536 ∧ gn ≤ 65536
  · obtain ⟨hsz, hn, hnd, hnu, hk, hnc, hgn⟩ := hle
    go_enter Try.func3, Try.ntmps3
    go_wp2_with fail
    clear hlen
    refine (strBytes_any an n cn 0 S w hn hS hN).mono ?_
    rintro e w1 ⟨t1, rfl, ht1, ht1', hw⟩
    obtain rfl : w = w1 := hw.symm
    go_wp2_with fail
    refine (strBytes_any ag gn cg 0 G w hgn hG hGr).mono ?_
    rintro e w1 ⟨t2, rfl, ht2, ht2', hw⟩
    obtain rfl : w = w1 := hw.symm
    go_wp2_with fail
    refine (intsBytes_any ad nd cd 0 Ld Zd w hnd hLd hDd).mono ?_
    rintro e w1 ⟨t3, rfl, ht3, ht3', hb3, hw⟩
    obtain rfl : w = w1 := hw.symm
    go_wp2_with fail
    refine (intsBytes_any au nu cu 0 Lu Zu w hnu hLu hDu).mono ?_
    rintro e w1 ⟨t4, rfl, ht4, ht4', hb4, hw⟩
    obtain rfl : w = w1 := hw.symm
    go_wp2_with fail
    refine (intsBytes_any am k cm 0 Lm Zm w hk hLm hDm).mono ?_
    rintro e w1 ⟨t5, rfl, ht5, ht5', hb5, hw⟩
    obtain rfl : w = w1 := hw.symm
    by_cases hsum : t1 + t2 + t3 + t4 + t5 + 8 * (nc : Int) ≤ 1048576
    · clear hLd hLu hLm
      have hLd := hb3 (by omega)
      have hLu := hb4 (by omega)
      have hLm := hb5 (by omega)
      clear hb3 hb4 hb5
      go_wp2_with fail
      clear hsum ht1 ht1' ht2 ht2' ht3 ht3' ht4 ht4' ht5 ht5'
      refine (valid_any (.map r0) D0 an ad au am ac n nd nu k nc cn cd cu cm cc 0 S Ld Lu Lm Zd Zu Zm Cm w hn hk hsz hnd hnu hnc hLd hLu hLm hS hM hN hDd hDu hDm hC).mono ?_
      rintro e w1 ⟨b, rfl, hV, hB1⟩
      cases b with
      | false =>
        go_wp2_with fail
        go_ret
        exact ⟨rfl, hB1⟩
      | true =>
        obtain ⟨rfl, rfl, rfl, V⟩ := hV rfl
        clear hV
        go_wp2_with fail
        refine (cloneStrs_any an n cn 0 S w1 hn (hN.below (Nat.le_refl _) hB1).nil (hN.below (Nat.le_refl _) hB1)).mono ?_
        rintro e w2 ⟨an', cn', rfl, hr2, hb2, _⟩
        have hB2 := Below.next hB1 hb2
        have hneq := fun w => run_neq_map_nil (P := Try.prog) w 22 9 3 r0 Try.underlying22
        go_upto_if 92 with fail
        go_cut [0] (fun s0 wx => ∃ r D, s0 = .map r ∧ MapAt wx 0 (.map r) D ∧ NumOk D n ∧ Below w2.heap.size w2 wx)
        case first =>
          cases r0 with
          | none =>
            go_wp2_with fail
            go_meet
            exact ⟨none, .map [], rfl, .inl ⟨rfl, rfl⟩, NumOk.empty n, Below.refl _ _⟩
          | some b0 =>
            go_wp2_with fail
            refine (numberOf_any an' n cn' w1.heap.size S w2 hn hS hr2).mono ?_
            rintro e w3 ⟨v, D, rfl, ⟨b', rfl⟩, hm3, hok3, hb3⟩
            go_wp2_with fail
            go_meet
            exact ⟨some b', D, rfl, hm3.mono (Nat.zero_le _), hok3, hb3⟩
        case rest =>
          obtain ⟨r, D, rfl, hm3, hok, hb3⟩ := hcut
          clear hneq
          have hB3 := Below.next hB2 hb3
          go_wp2_with fail
          refine (cloneInts2_any ad n cd 0 Ld Zd wc hnd hLd (hDd.below (Nat.le_refl _) hB3)).mono ?_
          rintro e w4 ⟨ad', cd', rfl, hd4, hb4, _⟩
          have hB4 := Below.next hB3 hb4
          go_wp2_with fail
          refine (cloneInts2_any au n cu 0 Lu Zu w4 hnd hLu (hDu.below (Nat.le_refl _) hB4)).mono ?_
          rintro e w5 ⟨au', cu', rfl, hd5, hb5, _⟩
          have hB5 := Below.next hB4 hb5
          go_wp2_with fail
          refine (cloneInts2_any am k cm 0 Lm Zm w5 hk hLm (hDm.below (Nat.le_refl _) hB5)).mono ?_
          rintro e w6 ⟨am', cm', rfl, hd6, hb6, _⟩
          have hB6 := Below.next hB5 hb6
          go_wp2_with fail
          refine (cloneInts_any ac n cc 0 Cm w6 (by omega) (hC.below (Nat.le_refl _) hB6).nil (hC.below (Nat.le_refl _) hB6)).mono ?_
          rintro e w7 ⟨ac', cc', rfl, hr7, hb7, _⟩
          have hB7 := Below.next hB6 hb7
          go_wp2_with fail
          refine (cloneStrs_any ag gn cg 0 G w7 hgn (hGr.below (Nat.le_refl _) hB7).nil (hGr.below (Nat.le_refl _) hB7)).mono ?_
          rintro e w8 ⟨ag', cg', rfl, hr8, hb8, _⟩
          have hB8 := Below.next hB7 hb8
          have hD8 : Data w8 r D ad' au' am' ac' ag' n k gn Ld Lu Lm Zd Zu Zm Cm G :=
            ⟨((((hm3.below hb4).below hb5).below hb6).below hb7).below hb8, ((((hd4.below (Nat.le_refl _) hb5).below (Nat.le_refl _) hb6).below (Nat.le_refl _) hb7).below (Nat.le_refl _) hb8).mono (Nat.zero_le _),
              (((hd5.below (Nat.le_refl _) hb6).below (Nat.le_refl _) hb7).below (Nat.le_refl _) hb8).mono (Nat.zero_le _), ((hd6.below (Nat.le_refl _) hb7).below (Nat.le_refl _) hb8).mono (Nat.zero_le _), (hr7.below (Nat.le_refl _) hb8).mono (Nat.zero_le _), hr8.mono (Nat.zero_le _)⟩
          clear hm3 hd4 hd5 hd6 hr7 hr8 hb3 hb4 hb5 hb6 hb7 hb8 hB1 hB2 hB3 hB4 hB5 hB6 hB7 hr2 hb2 hDd hDu hDm hC hGr hN hM
          go_wp2_with fail
          refine (makeLinks_any r an' ad' au' am' ac' n n n k n cn' cd' cu' cm' cc' w8).mono ?_
          rintro e w9 ⟨rfl, hb9⟩
          have hB9 := Below.next hB8 hb9
          have hD9 := hD8.below hb9
          clear hD8 hb9 hB8
          go_wp2_with fail
          have hba : Below w9.heap.size w9 (w9.alloc (.cells #[.map r, .slice an' n cn', .slice ad' n cd', .slice au' n cu', .slice am' k cm', .slice ac' n cc'] 34)) := (Below.refl _ _).alloc (Nat.le_refl _) _
          have hBa := Below.next hB9 hba
          have hDa := hD9.below hba
          clear hD9 hB9 hba
          generalize w9.alloc (.cells #[.map r, .slice an' n cn', .slice ad' n cd', .slice au' n cu', .slice am' k cm', .slice ac' n cc'] 34) = Wa at hBa hDa ⊢
          have hmem : ∀ c, c < k → ∀ j, j < Lm c → 0 ≤ Zm c j ∧ Zm c j < n := fun c hc j hj => ⟨(V.mem c hc j hj).1, (V.mem c hc j hj).2.1⟩
          have hdep : ∀ v, v < n → ∀ j, j < Ld v → 0 ≤ Zd v j ∧ Zd v j < n := fun v hv j hj => ⟨(V.deps v hv j hj).1, (V.deps v hv j hj).2.1⟩
          have hdpt : ∀ v, v < n → ∀ j, j < Lu v → 0 ≤ Zu v j ∧ Zu v j < n := fun v hv j hj => ⟨(V.dpts v hv j hj).1, (V.dpts v hv j hj).2.1⟩
          refine (reach_any (.map r) (.slice an' n cn') D ad' au' am' ac' ag' n k cd' cu' cm' cc' gn cg' 0 Ld Lu Lm Zd Zu Zm Cm G Wa hn hk hgn hLd hLu hLm V.comp hmem hdep hdpt hG hDa.num hok hDa.dd hDa.du hDa.dm hDa.c hDa.g).mono ?_
          rintro e w10 ⟨R1, bd1, bu1, bo1, rfl, e6, e7, e8, rd1, ru1, mo1, hb10⟩
          go_wp2_with fail
          refine (reachCounts_any R1 k bd1 bu1 bo1 w10 e6 e7 e8).mono ?_
          rintro e w11 ⟨rfl, q1, rfl⟩
          have hbq : Below w10.heap.size w10 (w10.drewN q1) := below_drewN (Below.refl _ _) q1
          have hBb := Below.next (Below.next hBa hb10) hbq
          have hDb := (hDa.below hb10).below hbq
          have hOb : Out (w10.drewN q1) k bd1 bu1 bo1 _ _ _ := Out.below ⟨rd1.mono (Nat.zero_le _), ru1.mono (Nat.zero_le _), mo1.mono (Nat.zero_le _)⟩ hbq
          clear hbq e6 e7 e8 rd1 ru1 mo1 hb10 hDa hBa
          generalize w10.drewN q1 = Wb at hBb hDb hOb ⊢
          have hmk := run_make_row' (P := Try.prog) 25 3 (.int .i64 0) 8 Try.underlying25 Try.info3 rfl .i64 .i64 k (by omega) (by omega)
          have hmm := @run_makeMap Try.prog
          go_wp2
          clear hmk hmm
          -- the group's counts, taken once more
          go_loopg [22, 23, 24] gn (fun g s22 s23 s24 wx => ∃ i : Nat, i ≤ gn ∧ g = gn - i ∧ s22 = .int .i64 i ∧ wx.rowIs Wb.heap.size 3 k (fun c => .int .i64 (gcnt D Cm G i c)) ∧
            wx.ownsMap Try.prog 9 (plainElem Try.prog 3) (Wb.heap.size + 1) i (othr D G i) ∧ Below Wb.heap.size Wb wx)
          case atStart => exact ⟨0, Nat.zero_le _, rfl, rfl, (World.rowIs_made Wb _ k 3).alloc _, by simpa [othr] using World.ownsMap_made (Wb.alloc (.cells (madeCells #[.int .i64 0] k) 3)) Try.prog 9 (plainElem Try.prog 3), ((Below.refl _ _).alloc (Nat.le_refl _) _).alloc (by simp) _⟩
          case round =>
            obtain ⟨i, hi0, rfl, rfl, hrw, hmp, hbx⟩ := hrel
            by_cases hlt : i < gn
            · obtain ⟨bg, og, hag, hcg⟩ := hDb.g
              obtain ⟨rfl, _⟩ := hag (by omega)
              have hbg : bg < Wb.heap.size := World.block_lt_of_cell? _ _ (hcg i hlt)
              have h1 : wr.cell? ⟨bg, og + i, none⟩ = some (.string (G i)) := (hbx.cell (p := ⟨bg, og + i, none⟩) hbg).trans (hcg i hlt)
              obtain ⟨c, hrun, hat, _⟩ := (hDb.num.below hbx).look_ok (hG i hlt)
              cases hh : Maps.has D (kl (G i))
              · rw [hh] at hrun
                have Hh : Hid (Maps.has D (kl (G i)) = false) := hh
                clear hh
                obtain ⟨c', hrun2, hat2, _⟩ := hmp.lookup_int keyed9 Try.underlying22 Try.underlying3 (zero3 _) (key_ok (hG i hlt))
                have hkey := key_ok (hG i hlt)
                have Hat : Hid ((othr D G i).atKey (kl (G i)) (I 0) = I c') := hat2
                clear hat hat2
                go_wp2_with (at_mapUpdate; refine wpList_mapUpdate_own _ rfl _ _ _ 22 rfl 9 3 keyed9 Try.underlying22 _ (Wb.heap.size + 1) i _ rfl hmp (by unfold maxLen; omega) _ _ _ rfl rfl hkey _ [] (plainElem_int Try.underlying3 (wrap64_wf _)) ?_; intro w1 hown1 hgrow1)
                clear hkey hrun hrun2 h1
                go_wp2
                go_roundg (gn - (i + 1))
                case measure => go_light; omega
                case rel =>
                  go_light
                  have e1 : gcnt D Cm G (i + 1) = gcnt D Cm G i := by simp [gcnt, Hh.out]
                  have e2 : othr D G (i + 1) = (othr D G i).put (kl (G i)) (I (wrap64 (c' + 1))) := by simp [othr, Hh.out, Hat.out, toInt]
                  refine ⟨i + 1, by omega, rfl, by go_num, ?_, ?_, ?_⟩
                  · rw [e1]; exact hrw.of_block (hgrow1.block _ hrw.lt (by simp))
                  · rw [e2]; exact hown1
                  · exact hbx.grown hgrow1 hbx.size (fun b hb => by cases hb; omega)
              · rw [hh] at hrun
                obtain ⟨vi, hvi, hat'⟩ := hok.2 _ hh
                obtain rfl : c = vi := by rw [hat] at hat'; simpa using hat'
                have Hh : Hid (Maps.has D (kl (G i)) = true ∧ D.atKey (kl (G i)) (I 0) = I vi) := ⟨hh, hat⟩
                clear hh hat hat'
                obtain ⟨hc0, hc1⟩ := V.comp vi hvi
                obtain ⟨cv, hcv⟩ := Int.eq_ofNat_of_zero_le hc0
                have hcvk : cv < k := by omega
                obtain ⟨bc, oc, hac, hcc⟩ := hDb.c
                obtain ⟨rfl, _⟩ := hac (by omega)
                have hbc : bc < Wb.heap.size := World.block_lt_of_cell? _ _ (hcc vi hvi)
                have h2 : wr.cell? ⟨bc, oc + vi, none⟩ = some (.int .i64 cv) := by rw [← hcv]; exact (hbx.cell (p := ⟨bc, oc + vi, none⟩) hbc).trans (hcc vi hvi)
                have Hcv : Hid (Cm vi = cv) := hcv
                have d1 := hrw.cell hcvk
                have d2 := hrw.frozen cv
                have hz1 : (vi : Int) < (n : Int) := by omega
                have hz2 : (cv : Int) < (k : Int) := by omega
                clear hcv hc0 hc1
                go_wp2
                go_roundg (gn - (i + 1))
                case measure => go_light; omega
                case rel =>
                  go_light
                  have e0 : (Cm (numIx D (G i))).toNat = cv := by simp [numIx, Hh.out.2, toInt, Hcv.out]
                  have e1 : gcnt D Cm G (i + 1) = bump (gcnt D Cm G i) cv := by simp [gcnt, Hh.out.1, e0]
                  have e2 : othr D G (i + 1) = othr D G i := by simp [othr, Hh.out.1]
                  refine ⟨i + 1, by omega, rfl, by go_num, ?_, ?_, hbx.setCell (Nat.le_refl _) _⟩
                  · rw [e1]; exact (hrw.set cv _).congr (fun c _ => by unfold bump; split <;> rfl)
                  · rw [e2]; exact (hmp.mono (by omega)).setCell (by show Wb.heap.size + 1 ≠ Wb.heap.size; omega) _
            · obtain rfl : gn = i := by omega
              have hBc := Below.next hBb hbx
              have hDc := hDb.below hbx
              have hOc := hOb.below hbx
              have hgc : Row wr 0 (some ⟨Wb.heap.size, 0, none⟩) k (fun c => .int .i64 (gcnt D Cm G gn c)) := Row.of_rowIs hrw (Nat.zero_le _)
              have hwant : MapAt wr 0 (.map (some (Wb.heap.size + 1))) (othr D G gn) := .inr ⟨_, _, rfl, Nat.zero_le _, hmp⟩
              obtain ⟨Wc, rfl⟩ : ∃ Wc : World, Wc = wr := ⟨_, rfl⟩
              clear hDb hOb hBb hrw hmp hbx
              go_wp2_with fail
              refine (side_any (some ⟨Wb.heap.size, 0, none⟩) am' ad' ac' n k k cm' cd' cc' Ld Lm Zd Zm Cm (gcnt D Cm G gn) Wc hn hk hLd hLm V.comp hmem hdep hgc hDc.dm hDc.dd hDc.c).mono ?_
              rintro e w20 ⟨on1, b20, rfl, hr20, hon1, hb20⟩
              have hBd := Below.next hBc hb20
              have hDd := hDc.below hb20
              have hOd := hOc.below hb20
              have hgd := hgc.below (Nat.le_refl _) hb20
              have hwd := hwant.below hb20
              clear hBc hDc hOc hgc hwant hb20
              go_wp2_with fail
              refine (same_any _ _ k k k 0 _ _ w20 hk hOd.d (hr20.mono (Nat.zero_le _)) (fun c _ => down_match V.comp V.mem V.onto V.inj V.deps hn hk hgn hLd hLm hon1 c)).mono ?_
              rintro e w21 ⟨rfl, hb21⟩
              have hBe := Below.next hBd hb21
              have hDe := hDd.below hb21
              have hOe := hOd.below hb21
              have hge := hgd.below (Nat.le_refl _) hb21
              have hwe := hwd.below hb21
              clear hBd hDd hOd hgd hwd hb21 hr20 hon1
              go_wp2_with fail
              refine (side_any (some ⟨Wb.heap.size, 0, none⟩) am' au' ac' n k k cm' cu' cc' Lu Lm Zu Zm Cm (gcnt D Cm G gn) w21 hn hk hLu hLm V.comp hmem hdpt hge hDe.dm hDe.du hDe.c).mono ?_
              rintro e w22 ⟨on2, b22, rfl, hr22, hon2, hb22⟩
              have hBf := Below.next hBe hb22
              have hDf := hDe.below hb22
              have hOf := hOe.below hb22
              have hwf := hwe.below hb22
              clear hBe hDe hOe hge hwe hb22
              go_wp2_with fail
              refine (same_any _ _ k k k 0 _ _ w22 hk hOf.u (hr22.mono (Nat.zero_le _)) (fun c _ => up_match V.comp V.mem V.onto V.inj V.dpts hn hk hgn hLu hLm hon2 c)).mono ?_
              rintro e w23 ⟨rfl, hb23⟩
              have hBg := Below.next hBf hb23
              have hDg := hDf.below hb23
              have hOg := (hOf.below hb23).o
              have hwg := hwf.below hb23
              clear hBf hDf hOf hwf hb23 hr22 hon2
              have hlen1 := hOg.len
              have hlen2 := hwg.len
              go_wp2
              clear hlen1 hlen2
              go_loopg [25, 26, 27, 28] gn (fun g s25 s26 s27 s28 wx => w23 = wx ∧ ∃ i : Nat, i ≤ gn ∧ g = gn - i ∧ s25 = .int .i64 i)
              case atStart => exact ⟨rfl, 0, Nat.zero_le _, rfl, rfl⟩
              case round =>
                obtain ⟨rfl, i, hi0, rfl, rfl⟩ := hrel
                by_cases hlt2 : i < gn
                · obtain ⟨bg, og, hag, hcg⟩ := hDg.g
                  obtain ⟨rfl, _⟩ := hag (by omega)
                  have h1 := hcg i hlt2
                  obtain ⟨c, hrun, hat, _⟩ := hDg.num.look_ok (hG i hlt2)
                  obtain ⟨c2, hr1, hat2, _⟩ := hOg.look (hG i hlt2)
                  have hr2 := hwg.look_eq (hG i hlt2) hat2
                  clear hat hat2
                  cases hh : Maps.has D (kl (G i))
                  · rw [hh] at hrun
                    clear hh
                    go_wp2
                    go_roundg (gn - (i + 1))
                    case measure => go_light; omega
                    case rel => go_light; exact ⟨rfl, i + 1, by omega, rfl, by go_num⟩
                  · rw [hh] at hrun
                    clear hh
                    go_wp2
                    go_roundg (gn - (i + 1))
                    case measure => go_light; omega
                    case rel => go_light; exact ⟨rfl, i + 1, by omega, rfl, by go_num⟩
                · obtain rfl : gn = i := by omega
                  go_wp2
                  go_ret
                  exact ⟨rfl, hBg⟩
    · go_wp2_with fail
      go_ret
      exact ⟨rfl, Below.refl _ _⟩
  · go_enter Try.func3, Try.ntmps3
    go_wp2
    all_goals (go_ret; exact ⟨rfl, Below.refl _ _⟩)
end Go.Proofs.Qxb6601698a
