/- Walk: (Links).Reach. -/
import Derived.Test.Qxb6601698aReachBase
import Derived.BigRegion
import Derived.Deep.DeepCutAuto
import Derived.Deep.RegionWith
namespace Go.Proofs.Qxb6601698a
open Go.RowKit Go.Maps

set_option maxHeartbeats 8000000 in
set_option maxRecDepth 100000 in
theorem reach_any (nv nmv : Value) (D : DataW Unit) (ad au am ac ag : Option Addr) (n k cd cu cm cc gn cg lo : Nat) (Ld Lu Lm : Nat → Nat) (Zd Zu Zm : Nat → Nat → Int) (Cm : Nat → Int) (G : Nat → ByteArray) (w : World)
    (hn : n ≤ 65536) (hk : k ≤ 65536) (hgn : gn ≤ 65536)
    (hLd : ∀ i, i < n → Ld i ≤ 1048576) (hLu : ∀ i, i < n → Lu i ≤ 1048576) (hLm : ∀ i, i < k → Lm i ≤ 1048576)
    (hcomp : ∀ v, v < n → 0 ≤ Cm v ∧ Cm v < k) (hmem : ∀ c, c < k → ∀ j, j < Lm c → 0 ≤ Zm c j ∧ Zm c j < n)
    (hdep : ∀ v, v < n → ∀ j, j < Ld v → 0 ≤ Zd v j ∧ Zd v j < n) (hdpt : ∀ v, v < n → ∀ j, j < Lu v → 0 ≤ Zu v j ∧ Zu v j < n)
    (hG : ∀ i, i < gn → (G i).size ≤ maxLen)
    (hM : MapAt w lo nv D) (hok : NumOk D n) (hDd : Mat w lo ad n Ld Zd) (hDu : Mat w lo au n Lu Zu) (hDm : Mat w lo am k Lm Zm) (hC : Row w lo ac n (fun i => .int .i64 (Cm i))) (hgr : Row w lo ag gn (fun i => .string (G i))) :
    Calls Try.prog 18 #[.agg #[nv, nmv, .slice ad n cd, .slice au n cu, .slice am k cm, .slice ac n cc], .slice ag gn cg] w fun e w' =>
      RetReach w k (dnAt k (fun c => nextAll Cm c Ld Zd (Zm c) (Lm c)) (gcnt D Cm G gn) k) (upAt (fun c => nextAll Cm c Lu Zu (Zm c) (Lm c)) (gcnt D Cm G gn) k) (othr D G gn) e w' := by
  have hmk := run_make_row' (P := Try.prog) 25 3 (.int .i64 0) 8 Try.underlying25 Try.info3 rfl .i64 .i64 k (by omega) (by omega)
  have hmm := @run_makeMap Try.prog
  obtain ⟨bg, og, hag, hcg⟩ := hgr
  go_enter Try.func18, Try.ntmps18
  go_upto_region 1 with fail
  go_cut [5] (fun s5 wx => ∃ R bd bu bo, s5 = .pointer (some ⟨R, 0, none⟩) ∧ Lie w R bd bu bo wx.heap.size ∧
    RI w wx [nv, nmv, .slice ad n cd, .slice au n cu, .slice am k cm, .slice ac n cc] k R bd bu bo wx.heap.size (fun _ => 0) (fun _ => 0) (.map []) 0 (.slice none 0 0))
  case first =>
    go_region
    all_goals
      go_wp2_with fail
      go_meet
      clear hmk hmm
      obtain ⟨h0, h1, h2, h3, h4, h5, h6⟩ := heap5 w _ _ _ _ _
      first
      | exact ⟨_, _, _, _, rfl, ⟨by omega, by omega, by omega⟩, RI.init h1 h5 h2 h3 h4 h6⟩
      | exact ⟨_, _, _, _, rfl, ⟨by omega, by omega, by omega⟩, RI.init h1 h5 h3 h2 h4 h6⟩
      | exact ⟨_, _, _, _, rfl, ⟨by omega, by omega, by omega⟩, RI.init h1 h5 h2 h4 h3 h6⟩
      | exact ⟨_, _, _, _, rfl, ⟨by omega, by omega, by omega⟩, RI.init h1 h5 h4 h2 h3 h6⟩
      | exact ⟨_, _, _, _, rfl, ⟨by omega, by omega, by omega⟩, RI.init h1 h5 h3 h4 h2 h6⟩
      | exact ⟨_, _, _, _, rfl, ⟨by omega, by omega, by omega⟩, RI.init h1 h5 h4 h3 h2 h6⟩
  case rest =>
    obtain ⟨R, bd, bu, bo, rfl, hL, hR⟩ := hcut
    obtain ⟨base, hbase⟩ : ∃ base, base = wc.heap.size := ⟨_, rfl⟩
    rw [← hbase] at hL hR
    clear hbase hmk hmm
    go_wp2
    go_loopg [30, 7, 8, 9] gn (fun g s30 s7 s8 s9 wr => ∃ i : Nat, i ≤ gn ∧ g = gn - i ∧ s30 = .int .i64 i ∧
      RI w wr [nv, nmv, .slice ad n cd, .slice au n cu, .slice am k cm, .slice ac n cc] k R bd bu bo base (gcnt D Cm G i) (gcnt D Cm G i) (othr D G i) i (.slice none 0 0))
    case atStart => exact ⟨0, Nat.zero_le _, rfl, rfl, hR⟩
    case round =>
      clear hR
      obtain ⟨i, hi, rfl, rfl, hR⟩ := hrel
      by_cases hlt : i < gn
      · obtain ⟨rfl, _⟩ := hag (by omega)
        have hbg : bg < w.heap.size := World.block_lt_of_cell? _ _ (hcg i hlt)
        have h1 : wr.cell? ⟨bg, og + i, none⟩ = some (.string (G i)) := (hR.below.cell (p := ⟨bg, og + i, none⟩) hbg).trans (hcg i hlt)
        obtain ⟨c, hrun, hat, _⟩ := (hM.below hR.below).look_ok (hG i hlt)
        obtain ⟨⟨c0, c1, c2, c3, c4, c5⟩, c6, c7, c8, c9, c10⟩ := hR.cells
        clear c1 c2 c3 c4 c9 c10
        cases hh : Maps.has D (kl (G i))
        · -- an unknown name
          rw [hh] at hrun
          have Hh : Hid (Maps.has D (kl (G i)) = false) := hh
          clear hh
          obtain ⟨c', hrun2, hat2, _⟩ := hR.oth.lookup_int keyed9 Try.underlying22 Try.underlying3 (zero3 _) (key_ok (hG i hlt))
          have hkey := key_ok (hG i hlt)
          have hoth := hR.oth
          have Hat : Hid ((othr D G i).atKey (kl (G i)) (I 0) = I c') := hat2
          clear c5 c6 c7 hat hat2
          go_wp2_with (at_mapUpdate; refine wpList_mapUpdate_own _ rfl _ _ _ 22 rfl 9 3 keyed9 Try.underlying22 _ bo i _ rfl hoth (by unfold maxLen; omega) _ _ _ rfl rfl hkey _ [] (plainElem_int Try.underlying3 (wrap64_wf _)) ?_; intro w1 hown1 hgrow1)
          clear hoth hkey hrun hrun2 h1 c0 c8
          go_wp2
          go_roundg (gn - (i + 1))
          case measure => go_light; omega
          case rel =>
            go_light
            refine ⟨i + 1, by omega, rfl, by go_num, ?_⟩
            have e1 : gcnt D Cm G (i + 1) = gcnt D Cm G i := by simp [gcnt, Hh.out]
            have e2 : othr D G (i + 1) = (othr D G i).put (kl (G i)) (I (wrap64 (c' + 1))) := by simp [othr, Hh.out, Hat.out, toInt]
            rw [e1, e2]
            exact hR.other hL hown1 hgrow1
        · rw [hh] at hrun
          obtain ⟨vi, hvi, hat'⟩ := hok.2 _ hh
          obtain rfl : c = vi := by rw [hat] at hat'; simpa using hat'
          have Hh : Hid (Maps.has D (kl (G i)) = true ∧ D.atKey (kl (G i)) (I 0) = I vi) := ⟨hh, hat⟩
          clear hh hat hat' c8
          obtain ⟨hc0, hc1⟩ := hcomp vi hvi
          obtain ⟨cv, hcv⟩ := Int.eq_ofNat_of_zero_le hc0
          have hcvk : cv < k := by omega
          obtain ⟨bc, oc, hac, hcc⟩ := hC
          obtain ⟨rfl, _⟩ := hac (by omega)
          have hbc : bc < w.heap.size := World.block_lt_of_cell? _ _ (hcc vi hvi)
          have h2 : wr.cell? ⟨bc, oc + vi, none⟩ = some (.int .i64 cv) := by rw [← hcv]; exact (hR.below.cell (p := ⟨bc, oc + vi, none⟩) hbc).trans (hcc vi hvi)
          have Hcv : Hid (Cm vi = cv) := hcv
          have d1 := hR.down.cell hcvk
          have d2 := hR.down.frozen cv
          have hz1 : (vi : Int) < (n : Int) := by omega
          have hz2 : (cv : Int) < (k : Int) := by omega
          clear hcv hc0 hc1
          go_wp2
          go_region
          have hR1 := (hR.bumpD hL cv).drew
          generalize (wr.setCell ⟨bd, cv, none⟩ (.int .i64 (wrap64 (gcnt D Cm G i cv + 1)))).drew = W1 at hR1 ⊢
          obtain ⟨⟨_, _, _, _, _, g5⟩, _, g7, _, _, _⟩ := hR1.cells
          have h2' : W1.cell? ⟨bc, oc + vi, none⟩ = some (.int .i64 cv) := by rw [← Hcv.out]; exact (hR1.below.cell (p := ⟨bc, oc + vi, none⟩) hbc).trans (hcc vi hvi)
          have d1' := hR1.up.cell hcvk
          have d2' := hR1.up.frozen cv
          clear h1 h2 d1 d2 hrun c0 c5 c6 c7 hR
          go_wp2
          go_region
          have hR2 := (hR1.bumpU hL cv).drew
          generalize (W1.setCell ⟨bu, cv, none⟩ (.int .i64 (wrap64 (gcnt D Cm G i cv + 1)))).drew = W2 at hR2 ⊢
          clear g5 g7 h2' d1' d2' hR1
          go_wp2
          go_roundg (gn - (i + 1))
          case measure => go_light; omega
          case rel =>
            go_light
            refine ⟨i + 1, by omega, rfl, by go_num, ?_⟩
            have e0 : (Cm (numIx D (G i))).toNat = cv := by simp [numIx, Hh.out.2, toInt, Hcv.out]
            have e1 : gcnt D Cm G (i + 1) = bump (gcnt D Cm G i) cv := by simp [gcnt, Hh.out.1, e0]
            have e2 : othr D G (i + 1) = othr D G i := by simp [othr, Hh.out.1]
            rw [e1, e2]
            exact ⟨hR2.box, hR2.st, hR2.down, hR2.up, hR2.oth.mono (by omega), hR2.below, hR2.size⟩
      · obtain rfl : gn = i := by omega
        obtain ⟨⟨_, _, _, _, c4, _⟩, _⟩ := hR.cells
        go_wp2
        clear c4
        go_loopg [10] k (fun q s10 wx => q ≤ k ∧ s10 = .int .i64 ((q : Int) - 1) ∧ ∃ (stk : Value) (xs : List Int),
          RI w wx [nv, nmv, .slice ad n cd, .slice au n cu, .slice am k cm, .slice ac n cc] k R bd bu bo base (dnAt k (fun c => nextAll Cm c Ld Zd (Zm c) (Lm c)) (gcnt D Cm G gn) (k - q)) (gcnt D Cm G gn) (othr D G gn) gn stk ∧
          wx.ownsRow base 3 1 stk xs.length (xs.map (Value.int .i64)))
        case atStart => exact ⟨Nat.le_refl _, rfl, _, [], by simpa [dnAt] using hR, World.ownsRow_nil _ _ _ _⟩
        case round =>
          clear hR
          obtain ⟨hq, rfl, stk, xs, hR, hO⟩ := hrel
          cases gk with
          | zero =>
            obtain ⟨dn, hdn⟩ : ∃ dn, dn = dnAt k (fun c => nextAll Cm c Ld Zd (Zm c) (Lm c)) (gcnt D Cm G gn) k := ⟨_, rfl⟩
            rw [show k - 0 = k from rfl, ← hdn] at hR
            have Hdn : Hid (dn = dnAt k (fun c => nextAll Cm c Ld Zd (Zm c) (Lm c)) (gcnt D Cm G gn) k) := hdn
            clear hdn
            obtain ⟨⟨_, _, _, _, c4, _⟩, _⟩ := hR.cells
            go_wp2
            clear c4
            go_loopg [127, 13] k (fun q s127 s13 wx => ∃ c : Nat, c ≤ k ∧ q = k - c ∧ s127 = .int .i64 c ∧ ∃ (stk : Value) (xs : List Int),
              RI w wx [nv, nmv, .slice ad n cd, .slice au n cu, .slice am k cm, .slice ac n cc] k R bd bu bo base dn (upAt (fun c => nextAll Cm c Lu Zu (Zm c) (Lm c)) (gcnt D Cm G gn) c) (othr D G gn) gn stk ∧
              wx.ownsRow base 3 1 stk xs.length (xs.map (Value.int .i64)))
            case atStart => exact ⟨0, Nat.zero_le _, rfl, rfl, stk, xs, hR, hO⟩
            case round =>
              clear hR hO
              obtain ⟨c, hck0, rfl, rfl, stk, xs, hR, hO⟩ := hrel
              by_cases hck : c < k
              · obtain ⟨up, hup⟩ : ∃ up, up = upAt (fun c => nextAll Cm c Lu Zu (Zm c) (Lm c)) (gcnt D Cm G gn) c := ⟨_, rfl⟩
                rw [← hup] at hR
                have Hup : Hid (upAt (fun c => nextAll Cm c Lu Zu (Zm c) (Lm c)) (gcnt D Cm G gn) (c + 1) = proc up c (nextAll Cm c Lu Zu (Zm c) (Lm c))) := by
                  unfold Hid
                  rw [upAt, ← hup]
                clear hup
                have hckz : (c : Int) < (k : Int) := by omega
                have d1 := hR.up.cell hck
                obtain ⟨⟨c0, c1, c2, c3, c4, c5⟩, c6, c7, c8, c9, c10⟩ := hR.cells
                by_cases hpos : 0 < up c
                · have hLi := hL
                  have hsz := hR.size
                  obtain ⟨a, cap, hstk, _⟩ := owned_shape hO
                  subst hstk
                  have hnext : ∀ (tv : Value) (W : World), RI w W [nv, nmv, .slice ad n cd, .slice au n cu, .slice am k cm, .slice ac n cc] k R bd bu bo base dn up (othr D G gn) gn (.slice a xs.length cap) → W.ownsRow base 3 1 tv 0 [] →
                      Calls Try.prog 33 #[.agg #[nv, nmv, .slice ad n cd, .slice au n cu, .slice am k cm, .slice ac n cc], .int .i64 c, .slice au n cu, tv] W fun e w' => RetNext W base tv (nextAll Cm c Lu Zu (Zm c) (Lm c)) e w' := fun tv W hRW hOW =>
                    next_any nv nmv _ _ tv am ac au n k c cm cc cu lo base Lu Lm Zu Zm Cm w W hn hk hck hRW.below (by have := hL.h1; have := hL.h2; omega) hRW.size hLu (hLm c hck) (hmem c hck) hdpt hDm hDu hC hOW
                  go_wp2
                  go_cut [13] (fun s10 wx => s10 = .int .i64 c ∧ ∃ (v : Value) (ys : List Int), ys = nextAll Cm c Lu Zu (Zm c) (Lm c) ∧ RI w wx [nv, nmv, .slice ad n cd, .slice au n cu, .slice am k cm, .slice ac n cc] k R bd bu bo base dn up (othr D G gn) gn v ∧
                    wx.ownsRow base 3 1 v ys.length (ys.map (Value.int .i64)))
                  case first =>
                    have hsl := run_cut0 a xs.length cap
                    have hO0 : wr.drew.ownsRow base 3 1 (.slice a 0 cap) 0 [] := owned_cut' hO
                    have ht : ∀ b, (Value.slice a 0 cap).ownBlock = some b → base ≤ b := fun b hb => (hO0.lt b hb).1
                    have hRd := hR.drew
                    have hLt := hL.h2
                    go_region_with (go_at_call 33; refine (hnext _ _ hRd hO0).mono ?_; rintro e w1 ⟨v', rfl, hO', hG'⟩; obtain ⟨a', cap', rfl, _⟩ := owned_shape hO'; obtain ⟨g9, g10⟩ := hRd.after hL ht hG')
                    all_goals
                      go_wp2_with fail
                      go_meet
                      go_light
                      exact ⟨rfl, _, _, rfl, hRd.stack hL ht hG' rfl, ownsRow_setCell_below hO' (by show R < base; omega) _⟩
                  case rest =>
                    clear hR hO hnext c0 c1 c2 c3 c4 c5 c6 c7 c8 c9 c10 d1
                    obtain ⟨rfl, v, ys, hys, hR, hO⟩ := hcut
                    have hym : ∀ y ∈ ys, 0 ≤ y ∧ y < k := by rw [hys]; exact nextAll_mem hcomp (hmem c hck) hdpt
                    have hyl : ys.length ≤ 1099511627776 := by
                      rw [hys]
                      have h1 := nextAll_len Cm c Lu Zu (Zm c) 1048576 (Lm c) (fun i hi => hLu _ (by have := hmem c hck i hi; omega))
                      have h2 : Lm c * 1048576 ≤ 1048576 * 1048576 := Nat.mul_le_mul_right _ (hLm c hck)
                      omega
                    have Hys : Hid (ys = nextAll Cm c Lu Zu (Zm c) (Lm c)) := hys
                    have HP : Hid (upAt (fun c => nextAll Cm c Lu Zu (Zm c) (Lm c)) (gcnt D Cm G gn) (c + 1) = bumps up ys) := by
                      unfold Hid; rw [Hup.out, ← hys, proc, if_pos hpos]
                    clear hys Hup hpos
                    obtain ⟨a', cap', rfl, _⟩ := owned_shape hO
                    obtain ⟨_, _, _, _, g9, _⟩ := hR.cells
                    go_wp2
                    clear g9
                    go_loopg [156, 15] ys.length (fun g s156 s15 wx => ∃ t : Nat, t ≤ ys.length ∧ g = ys.length - t ∧ s156 = .int .i64 t ∧
                      RI w wx [nv, nmv, .slice ad n cd, .slice au n cu, .slice am k cm, .slice ac n cc] k R bd bu bo base dn (bumps up (ys.take t)) (othr D G gn) gn (.slice a' ys.length cap') ∧
                      wx.ownsRow base 3 1 (.slice a' ys.length cap') ys.length (ys.map (Value.int .i64)))
                    case atStart => exact ⟨0, Nat.zero_le _, rfl, rfl, by simpa [bumps] using hR, hO⟩
                    case round =>
                      clear hR hO
                      obtain ⟨t, ht, rfl, rfl, hR, hO⟩ := hrel
                      by_cases hlt2 : t < ys.length
                      · obtain ⟨hy0, hy1⟩ := hym (ys.getD t 0) (by rw [List.getD_eq_getElem?_getD, List.getElem?_eq_getElem hlt2]; exact List.getElem_mem hlt2)
                        obtain ⟨d, hd⟩ := Int.eq_ofNat_of_zero_le hy0
                        have hdk : d < k := by omega
                        obtain ⟨a2, cap2, hv2, b2, o2, ha2, hc2⟩ := owned_shape hO
                        simp only [Value.slice.injEq, true_and] at hv2
                        obtain ⟨rfl, rfl⟩ := hv2
                        obtain ⟨rfl, _⟩ := ha2 (by omega)
                        have h1 : wr.cell? ⟨b2, o2 + t, none⟩ = some (.int .i64 d) := by rw [← hd]; exact hc2 t hlt2
                        have d1 := hR.up.cell hdk
                        have d2 := hR.up.frozen d
                        obtain ⟨_, _, g7, _⟩ := hR.cells
                        have Hd : Hid (ys.getD t 0 = d) := hd
                        have hdz : (d : Int) < (k : Int) := by omega
                        clear hd hy0 hy1 hc2 
                        go_wp2
                        go_roundg (ys.length - (t + 1))
                        case measure => go_light; omega
                        case rel =>
                          go_light
                          refine ⟨t + 1, by omega, rfl, by go_num, ?_, ?_⟩
                          · rw [bumps_take up ys t d hlt2 Hd.out]
                            exact hR.bumpU hL d
                          · exact ownsRow_setCell_below hO (by show bu < base; have := hL.h2; omega) _
                      · obtain rfl : ys.length = t := by omega
                        go_wp2
                        go_roundg (k - (c + 1))
                        case measure => go_light; omega
                        case rel =>
                          go_light
                          refine ⟨c + 1, by omega, rfl, by go_num, _, ys, ?_, hO⟩
                          rw [HP.out]
                          rw [List.take_length] at hR
                          exact hR
                · have e1 : proc up c (nextAll Cm c Lu Zu (Zm c) (Lm c)) = up := if_neg hpos
                  have HP : Hid (upAt (fun c => nextAll Cm c Lu Zu (Zm c) (Lm c)) (gcnt D Cm G gn) (c + 1) = up) := Hup.out.trans e1
                  clear Hup e1 c0 c1 c2 c3 c4 c5 c6 c8 c9 c10
                  go_wp2
                  go_roundg (k - (c + 1))
                  case measure => go_light; omega
                  case rel =>
                    go_light
                    refine ⟨c + 1, by omega, rfl, by go_num, stk, xs, ?_, hO⟩
                    rw [HP.out]
                    exact hR
              · obtain rfl : k = c := by omega
                go_wp2
                go_ret
                obtain ⟨_, e6, e7, e8, _⟩ := hR.cells
                have hl := hL.h1
                rw [Hdn.out] at hR
                exact ⟨R, bd, bu, bo, rfl, e6, e7, e8, Row.of_rowIs hR.down (by omega), Row.of_rowIs hR.up (by omega), .inr ⟨bo, gn, rfl, by omega, hR.oth⟩, hR.below⟩
          | succ c =>
            have ec : ((c + 1 : Nat) : Int) - 1 = (c : Int) := by omega
            rw [ec]
            clear ec
            obtain ⟨dn, hdn⟩ : ∃ dn, dn = dnAt k (fun c => nextAll Cm c Ld Zd (Zm c) (Lm c)) (gcnt D Cm G gn) (k - (c + 1)) := ⟨_, rfl⟩
            rw [← hdn] at hR
            have Hdn : Hid (dnAt k (fun c => nextAll Cm c Ld Zd (Zm c) (Lm c)) (gcnt D Cm G gn) (k - c) = proc dn c (nextAll Cm c Ld Zd (Zm c) (Lm c))) := by
              unfold Hid
              have e1 : k - c = (k - (c + 1)) + 1 := by omega
              rw [e1, dnAt, ← hdn]
              have e2 : k - 1 - (k - (c + 1)) = c := by omega
              rw [e2]
            clear hdn
            have hck : c < k := by omega
            have hckz : (c : Int) < (k : Int) := by omega
            have d1 := hR.down.cell hck
            obtain ⟨⟨c0, c1, c2, c3, c4, c5⟩, c6, c7, c8, c9, c10⟩ := hR.cells
            by_cases hpos : 0 < dn c
            · have hLi := hL
              have hsz := hR.size
              obtain ⟨a, cap, hstk, _⟩ := owned_shape hO
              subst hstk
              have hnext : ∀ (tv : Value) (W : World), RI w W [nv, nmv, .slice ad n cd, .slice au n cu, .slice am k cm, .slice ac n cc] k R bd bu bo base dn (gcnt D Cm G gn) (othr D G gn) gn (.slice a xs.length cap) → W.ownsRow base 3 1 tv 0 [] →
                  Calls Try.prog 33 #[.agg #[nv, nmv, .slice ad n cd, .slice au n cu, .slice am k cm, .slice ac n cc], .int .i64 c, .slice ad n cd, tv] W fun e w' => RetNext W base tv (nextAll Cm c Ld Zd (Zm c) (Lm c)) e w' := fun tv W hRW hOW =>
                next_any nv nmv _ _ tv am ac ad n k c cm cc cd lo base Ld Lm Zd Zm Cm w W hn hk hck hRW.below (by have := hL.h1; have := hL.h2; omega) hRW.size hLd (hLm c hck) (hmem c hck) hdep hDm hDd hC hOW
              go_wp2
              go_cut [10] (fun s10 wx => s10 = .int .i64 c ∧ ∃ (v : Value) (ys : List Int), ys = nextAll Cm c Ld Zd (Zm c) (Lm c) ∧ RI w wx [nv, nmv, .slice ad n cd, .slice au n cu, .slice am k cm, .slice ac n cc] k R bd bu bo base dn (gcnt D Cm G gn) (othr D G gn) gn v ∧
                wx.ownsRow base 3 1 v ys.length (ys.map (Value.int .i64)))
              case first =>
                have hsl := run_cut0 a xs.length cap
                have hO0 : wr.drew.ownsRow base 3 1 (.slice a 0 cap) 0 [] := owned_cut' hO
                have ht : ∀ b, (Value.slice a 0 cap).ownBlock = some b → base ≤ b := fun b hb => (hO0.lt b hb).1
                have hRd := hR.drew
                have hLt := hL.h2
                go_region_with (go_at_call 33; refine (hnext _ _ hRd hO0).mono ?_; rintro e w1 ⟨v', rfl, hO', hG'⟩; obtain ⟨a', cap', rfl, _⟩ := owned_shape hO'; obtain ⟨g9, g10⟩ := hRd.after hL ht hG')
                all_goals
                  go_wp2_with fail
                  go_meet
                  go_light
                  exact ⟨rfl, _, _, rfl, hRd.stack hL ht hG' rfl, ownsRow_setCell_below hO' (by show R < base; omega) _⟩
              case rest =>
                clear hR hO hnext c0 c1 c2 c3 c4 c5 c6 c7 c8 c9 c10 d1
                obtain ⟨rfl, v, ys, hys, hR, hO⟩ := hcut
                have hym : ∀ y ∈ ys, 0 ≤ y ∧ y < k := by rw [hys]; exact nextAll_mem hcomp (hmem c hck) hdep
                have hyl : ys.length ≤ 1099511627776 := by
                  rw [hys]
                  have h1 := nextAll_len Cm c Ld Zd (Zm c) 1048576 (Lm c) (fun i hi => hLd _ (by have := hmem c hck i hi; omega))
                  have h2 : Lm c * 1048576 ≤ 1048576 * 1048576 := Nat.mul_le_mul_right _ (hLm c hck)
                  omega
                have Hys : Hid (ys = nextAll Cm c Ld Zd (Zm c) (Lm c)) := hys
                have HP : Hid (dnAt k (fun c => nextAll Cm c Ld Zd (Zm c) (Lm c)) (gcnt D Cm G gn) (k - c) = bumps dn ys) := by
                  unfold Hid; rw [Hdn.out, ← hys, proc, if_pos hpos]
                clear hys Hdn hpos
                obtain ⟨a', cap', rfl, _⟩ := owned_shape hO
                obtain ⟨_, _, _, _, g9, _⟩ := hR.cells
                go_wp2
                clear g9
                go_loopg [110, 12] ys.length (fun g s110 s12 wx => ∃ t : Nat, t ≤ ys.length ∧ g = ys.length - t ∧ s110 = .int .i64 t ∧
                  RI w wx [nv, nmv, .slice ad n cd, .slice au n cu, .slice am k cm, .slice ac n cc] k R bd bu bo base (bumps dn (ys.take t)) (gcnt D Cm G gn) (othr D G gn) gn (.slice a' ys.length cap') ∧
                  wx.ownsRow base 3 1 (.slice a' ys.length cap') ys.length (ys.map (Value.int .i64)))
                case atStart => exact ⟨0, Nat.zero_le _, rfl, rfl, by simpa [bumps] using hR, hO⟩
                case round =>
                  clear hR hO
                  obtain ⟨t, ht, rfl, rfl, hR, hO⟩ := hrel
                  by_cases hlt2 : t < ys.length
                  · obtain ⟨hy0, hy1⟩ := hym (ys.getD t 0) (by rw [List.getD_eq_getElem?_getD, List.getElem?_eq_getElem hlt2]; exact List.getElem_mem hlt2)
                    obtain ⟨d, hd⟩ := Int.eq_ofNat_of_zero_le hy0
                    have hdk : d < k := by omega
                    obtain ⟨a2, cap2, hv2, b2, o2, ha2, hc2⟩ := owned_shape hO
                    simp only [Value.slice.injEq, true_and] at hv2
                    obtain ⟨rfl, rfl⟩ := hv2
                    obtain ⟨rfl, _⟩ := ha2 (by omega)
                    have h1 : wr.cell? ⟨b2, o2 + t, none⟩ = some (.int .i64 d) := by rw [← hd]; exact hc2 t hlt2
                    have d1 := hR.down.cell hdk
                    have d2 := hR.down.frozen d
                    obtain ⟨_, g6, _⟩ := hR.cells
                    have Hd : Hid (ys.getD t 0 = d) := hd
                    have hdz : (d : Int) < (k : Int) := by omega
                    clear hd hy0 hy1 hc2 
                    go_wp2
                    go_roundg (ys.length - (t + 1))
                    case measure => go_light; omega
                    case rel =>
                      go_light
                      refine ⟨t + 1, by omega, rfl, by go_num, ?_, ?_⟩
                      · rw [bumps_take dn ys t d hlt2 Hd.out]
                        exact hR.bumpD hL d
                      · exact ownsRow_setCell_below hO (by show bd < base; have := hL.h2; omega) _
                  · obtain rfl : ys.length = t := by omega
                    go_wp2
                    go_roundg c
                    case measure => go_light; omega
                    case rel =>
                      go_light
                      refine ⟨by omega, by go_num, _, ys, ?_, hO⟩
                      rw [HP.out]
                      rw [List.take_length] at hR
                      exact hR
            · have e1 : proc dn c (nextAll Cm c Ld Zd (Zm c) (Lm c)) = dn := if_neg hpos
              have HP : Hid (dnAt k (fun c => nextAll Cm c Ld Zd (Zm c) (Lm c)) (gcnt D Cm G gn) (k - c) = dn) := Hdn.out.trans e1
              clear Hdn e1 c0 c1 c2 c3 c4 c5 c7 c8 c9 c10
              go_wp2
              go_roundg c
              case measure => go_light; omega
              case rel =>
                go_light
                refine ⟨by omega, by go_num, stk, xs, ?_, hO⟩
                rw [HP.out]
                exact hR
end Go.Proofs.Qxb6601698a
