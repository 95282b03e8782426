/- Walk: the law itself. -/
import Derived.Test.Qxb6601781aPlan
namespace Go.Proofs.Qxb6601781a
open Go.RowKit

/-- what the law hands back -/
def RetTrue (w : World) (e : Ending) (w' : World) : Prop := e = .returned (.bool true) ∧ Below w.heap.size w w'

theorem below_grown {w w1 : World} (h : w.grownBy w1 none) : Below w.heap.size w w1 := ⟨h.os, h.tape, h.output, h.size, fun i hi => h.block i hi (by simp)⟩

set_option maxHeartbeats 40000000 in
set_option maxRecDepth 100000 in
theorem law_any (fl ind hd tk col num kd line : Int) (ai ak al av : Option Addr) (ni nk nl nv ci ck cl cv : Nat) (I K L : Nat → Int) (S : Nat → ByteArray) (w : World)
    (h1 : ni ≤ maxLen) (h2 : nk ≤ maxLen) (h3 : nl ≤ maxLen) (h4 : nv ≤ maxLen) (hS : ∀ i, i < nv → (S i).size ≤ maxLen)
    (r1 : hd < 9223372036854775808) (r1' : -9223372036854775808 ≤ hd) (r2 : tk < 9223372036854775808) (r2' : -9223372036854775808 ≤ tk) (r3 : num < 9223372036854775808) (r3' : -9223372036854775808 ≤ num)
    (hI : Row w 0 ai ni (fun i => .int .i64 (I i))) (hK : Row w 0 ak nk (fun i => .int .u8 (K i))) (hL : Row w 0 al nl (fun i => .int .i64 (L i))) (hV : Row w 0 av nv (fun i => .string (S i))) :
    Calls Try.prog 5 #[.int .i64 fl, .int .i64 ind, .slice ai ni ci, .int .i64 hd, .int .i64 tk, .slice ak nk ck, .slice al nl cl, .slice av nv cv, .int .i64 col, .int .i64 num, .int .u8 kd, .int .i64 line] w fun e w' => RetTrue w e w' := by
  have hby := bytes_any (.int .i64 fl) (.int .i64 ind) (.int .i64 hd) (.int .i64 tk) (.int .i64 col) (.int .i64 num) (.int .u8 kd) (.int .i64 line) ai ak al av ni nk nl nv ci ck cl cv 0 S w h1 h2 h3 h4 hS hV
  unfold maxLen at h1 h2 h3 h4
  have hSH : Hid (∀ i, i < nv → (S i).size ≤ maxLen) := hS
  clear hS
  have hVH : Hid (Row w 0 av nv (fun i => .string (S i))) := hV
  obtain ⟨bv, ov, hav, hcv⟩ := hV
  obtain ⟨rl, hrl⟩ : ∃ rl : Bool, rl = decide (fl ≤ 0 ∧ ind < col) := ⟨_, rfl⟩
  have Hrl : Hid (rl = decide (fl ≤ 0 ∧ ind < col)) := hrl
  clear hrl
  go_enter Try.func5, Try.ntmps5
  go_wp2_with fail
  refine hby.mono ?_
  rintro e w1 ⟨b, rfl, rfl⟩
  clear hby
  cases b with
  | false =>
    as_aux_lemma =>
      go_wp2_with fail
      go_ret
      exact ⟨rfl, Below.refl _ _⟩
  | true =>
    by_cases hle : ni ≤ 65536 ∧ nk ≤ 65536 ∧ nl ≤ 65536 ∧ nv ≤ 65536
    · obtain ⟨h1, h2, h3, h4⟩ := hle
      go_wp2
      go_loopg [25, 26] nv (fun q s25 s26 wr => ∃ k : Nat, k ≤ nv ∧ q = nv - k ∧ s26 = .int .i64 k ∧ w = wr ∧ ∃ T : Int, s25 = .int .i64 T)
      case atStart => exact ⟨0, Nat.zero_le _, rfl, rfl, rfl, _, rfl⟩
      case round =>
        obtain ⟨k, hk0, rfl, rfl, rfl, T, rfl⟩ := hrel
        by_cases hk : k < nv
        · obtain ⟨rfl, _⟩ := hav (by omega)
          have hc := hcv k hk
          by_cases hT2 : wrap64 (T + (S k).size) ≤ 1048576
          · as_aux_lemma =>
              go_wp2
              go_roundg (nv - (k + 1))
              case measure => go_light; omega
              case rel => go_light; exact ⟨k + 1, by omega, rfl, by go_num, rfl, _, rfl⟩
          · as_aux_lemma =>
              go_wp2
              go_ret
              exact ⟨rfl, Below.refl _ _⟩
        · obtain rfl : nv = k := by omega
          clear hav hcv
          by_cases hT2 : T ≤ 1048576
          · by_cases hlen : nl = nk ∧ nv = nk
            · obtain ⟨rfl, rfl⟩ := hlen
              go_upto_region 17 with fail
              go_cut [28] (fun s28 wx => s28 = .bool rl ∧ w = wx)
              case first =>
                have hrl : rl = decide (fl ≤ 0 ∧ ind < col) := Hrl
                by_cases ha : fl ≤ 0
                · by_cases hb : ind < col
                  · as_aux_lemma =>
                      go_wp2_with fail
                      go_meet
                      exact ⟨by rw [hrl]; simp [ha, hb], rfl⟩
                  · as_aux_lemma =>
                      go_wp2_with fail
                      go_meet
                      exact ⟨by rw [hrl]; simp [hb], rfl⟩
                · as_aux_lemma =>
                    go_wp2_with fail
                    go_meet
                    exact ⟨by rw [hrl]; simp; omega, rfl⟩
              case rest =>
                as_aux_lemma =>
                  obtain ⟨rfl, rfl⟩ := hcut
                  obtain ⟨rn, hrn⟩ : ∃ rn : Bool, rn = (rl && decide (0 ≤ num)) := ⟨_, rfl⟩
                  have Hrn : Hid (rn = (rl && decide (0 ≤ num))) := hrn
                  clear hrn
                  go_upto_region 18 with fail
                  go_cut [133] (fun s133 wx => s133 = .bool rn ∧ w = wx)
                  case first =>
                    have hrn : rn = (rl && decide (0 ≤ num)) := Hrn
                    cases rl with
                    | false =>
                      as_aux_lemma =>
                        go_wp2_with fail
                        go_meet
                        exact ⟨by rw [hrn]; rfl, rfl⟩
                    | true =>
                      as_aux_lemma =>
                        go_wp2_with fail
                        go_meet
                        exact ⟨by rw [hrn]; simp, rfl⟩
                  case rest =>
                    as_aux_lemma =>
                      obtain ⟨rfl, rfl⟩ := hcut
                      go_upto_if 133 with fail
                      go_cut [0] (fun s0 wx => s0 = .int .i64 fl ∧ w = wx ∧ Fits nv fl ind col hd tk num)
                      case first =>
                        have hrn : rn = (rl && decide (0 ≤ num)) := Hrn
                        have hrl : rl = decide (fl ≤ 0 ∧ ind < col) := Hrl
                        cases rn with
                        | false =>
                          as_aux_lemma =>
                            go_wp2_with fail
                            go_meet
                            exact ⟨rfl, rfl, fun a b c => by rw [hrl] at hrn; simp at hrn; omega⟩
                        | true =>
                          clear hrn hrl
                          by_cases k1 : hd < 0
                          · as_aux_lemma =>
                              go_wp2_with fail
                              go_ret
                              exact ⟨rfl, Below.refl _ _⟩
                          · by_cases k2 : tk < 0
                            · as_aux_lemma =>
                                go_wp2_with fail
                                go_ret
                                exact ⟨rfl, Below.refl _ _⟩
                            · by_cases k3 : num < tk
                              · as_aux_lemma =>
                                  go_wp2_with fail
                                  go_ret
                                  exact ⟨rfl, Below.refl _ _⟩
                              · have k4 : wrap64 (num - tk) = num - tk := by unfold wrap64; omega
                                have k5 : wrap64 ((nv : Int) - hd) = (nv : Int) - hd := by unfold wrap64; omega
                                by_cases k6 : (nv : Int) - hd < num - tk
                                · as_aux_lemma =>
                                    go_wp2_with fail
                                    go_ret
                                    exact ⟨rfl, Below.refl _ _⟩
                                · as_aux_lemma =>
                                    go_wp2_with fail
                                    go_meet
                                    exact ⟨rfl, rfl, fun _ _ _ => by omega⟩
                      case rest =>
                        as_aux_lemma =>
                          obtain ⟨rfl, rfl, hfit⟩ := hcut
                          clear Hrn
                          obtain ⟨m, mi, ind', pos, I', K', L', S', hP, hroll⟩ := roll_plan nv ni fl ind col hd tk num kd line I K L S h2 h1 hfit r1 r3
                          have HF : Hid (Fits nv fl ind col hd tk num) := hfit
                          clear hfit
                          have hV : Row w 0 av nv (fun i => .string (S i)) := hVH
                          go_wp2_with fail
                          refine (cloneInts_any ai ni ci 0 I w (by omega) hI).mono ?_
                          rintro e w1 ⟨ai1, rfl, hI1, hB1⟩
                          go_wp2_with fail
                          refine (cloneBytes_any ak nv ck 0 K w1 (by omega) (hK.below (Nat.le_refl _) hB1)).mono ?_
                          rintro e w2 ⟨ak1, rfl, hK2, hb2⟩
                          have hB2 := Below.next hB1 hb2
                          go_wp2_with fail
                          refine (cloneInts_any al nv cl 0 L w2 (by omega) (hL.below (Nat.le_refl _) hB2)).mono ?_
                          rintro e w3 ⟨al1, rfl, hL3, hb3⟩
                          have hB3 := Below.next hB2 hb3
                          go_wp2_with fail
                          refine (cloneStrs_any av nv cv 0 S w3 (by omega) (hV.below (Nat.le_refl _) hB3)).mono ?_
                          rintro e w4 ⟨av1, rfl, hV4, hb4⟩
                          have hB4 := Below.next hB3 hb4
                          have hI4 : Row w4 0 ai1 ni (fun i => .int .i64 (I i)) := (((hI1.below (Nat.le_refl _) hb2).below (Nat.le_refl _) hb3).below (Nat.le_refl _) hb4).mono (Nat.zero_le _)
                          have hK4 : Row w4 0 ak1 nv (fun i => .int .u8 (K i)) := ((hK2.below (Nat.le_refl _) hb3).below (Nat.le_refl _) hb4).mono (Nat.zero_le _)
                          have hL4 : Row w4 0 al1 nv (fun i => .int .i64 (L i)) := (hL3.below (Nat.le_refl _) hb4).mono (Nat.zero_le _)
                          have hV4' : Row w4 0 av1 nv (fun i => .string (S i)) := hV4.mono (Nat.zero_le _)
                          clear hI1 hK2 hL3 hV4 hb2 hb3 hb4 hB1 hB2 hB3 hV hVH hSH hI hK hL
                          go_wp2_with fail
                          refine (cloneInts_any ai1 ni ni 0 I w4 (by omega) hI4).mono ?_
                          rintro e w5 ⟨ai2, rfl, hI5, hb5⟩
                          have hB5 := Below.next hB4 hb5
                          go_wp2_with fail
                          refine (new_any fl ind hd tk ai2 ak1 al1 av1 ni nv ni nv nv nv 0 K L S w5 h2 (hK4.below (Nat.le_refl _) hb5) (hL4.below (Nat.le_refl _) hb5) (hV4'.below (Nat.le_refl _) hb5)).mono ?_
                          rintro e w6 ⟨R, b, rfl, hwb, hwR, hRb, hsc, hT, hb6⟩
                          have hB6 := Below.next hB5 hb6
                          go_wp2_with fail
                          refine (hroll w6 R b 0 ai2 (Nat.zero_le _) hsc hT ((hI5.mono (Nat.zero_le _)).below (Nat.le_refl _) hb6) hRb).mono ?_
                          rintro e w7 ⟨rfl, hst, hgr⟩
                          have hb7 : Below w5.heap.size w6 w7 := ⟨hgr.os, hgr.tape, hgr.output, hgr.size, fun i hi => hgr.block i (by have := hb6.size; omega) (by rintro ⟨⟩; omega)⟩
                          have hB7 : Below w4.heap.size w4 w7 := Below.next hb5 (hb6.trans hb7)
                          clear hroll hsc hT hgr hb7 hb6 hI5 hb5 hB5 hB6
                          go_wp2_with fail
                          refine (state_any R 0 m mi hd tk ind' fl I' K' L' S' w7 hP.hm (Nat.zero_le _) hst).mono ?_
                          rintro e w8 ⟨gi, ci8, gk, gs, gl, gv, gh, gj, rfl, hgi, hgk, hgs, hgl, hgv, hgh, hgj, hb8⟩
                          have hB8 := Below.next hB7 hb8
                          clear hst hB7 hb8
                          go_wp2_with fail
                          refine (cloneInts_any ai1 ni ni 0 I w8 (by omega) (hI4.below (Nat.le_refl _) hB8)).mono ?_
                          rintro e w9 ⟨ai3, rfl, hI9, hb9⟩
                          have hB9 := Below.next hB8 hb9
                          have hbz : Below w8.heap.size w8 w9 := hb9
                          clear hb9
                          go_upto_if 208 with fail
                          go_cut [41, 42, 43] (fun s41 s42 s43 wx => s41 = .int .i64 ind' ∧ s43 = .int .i64 pos ∧ ∃ a42 c42, s42 = .slice a42 mi c42 ∧ Row wx 0 a42 mi (fun i => .int .i64 (I' i)) ∧ Below w9.heap.size w9 wx)
                          case first =>
                            have hrl : rl = decide (fl ≤ 0 ∧ ind < col) := Hrl
                            cases rl with
                            | false =>
                              as_aux_lemma =>
                                obtain ⟨rfl, rfl, rfl, rfl, rfl⟩ := hP.no (by simpa using hrl.symm)
                                clear hrl
                                go_wp2_with fail
                                go_meet
                                exact ⟨rfl, rfl, ai3, _, rfl, hI9.mono (Nat.zero_le _), Below.refl _ _⟩
                            | true =>
                              as_aux_lemma =>
                                obtain ⟨hy1, hy2⟩ : fl ≤ 0 ∧ ind < col := by simpa using hrl.symm
                                obtain ⟨rfl, rfl, rfl, hp1, hp2, rfl⟩ := hP.yes hy1 hy2
                                obtain ⟨i0, hi, hz0, hz1, hz2⟩ := info_parts Try.info3
                                have hnone : ai3 = none → ni = 0 ∧ ni = 0 := fun h => ⟨hI9.nil h, hI9.nil h⟩
                                have hfit : Fits nv fl ind ind' hd tk num := HF
                                have hp3 := hfit hy1 hy2
                                clear hrl hP hfit hy1 hy2
                                by_cases hnum : num < 0
                                · obtain rfl := hp1 hnum
                                  clear hp1 hp2 hp3
                                  go_wp2_with (at_builtin; refine wpList_append_grows _ rfl _ _ 29 rfl 3 i0 (.int .i64 0) 1 8 Try.underlying29 hi hz0 hz1 hz2 rfl (by decide) ai3 ni ni ((List.range ni).map (fun i => Value.int .i64 (I i))) rfl hnone (by simp) (row_list hI9 (fun p hp => World.cell?_alloc_old _ _ _ (by omega))) ⟨w9.heap.size, 0, none⟩ 1 1 [.int .i64 ind] rfl rfl (cell_one_new _ _ _) (ints_oneCell .i64 [ind]) (by omega) (by unfold maxLen; omega) (by omega) ?_; intro v' w10 hown hgrow; obtain ⟨g, cap, cur, rfl, hg1, hg2, hg3, hg4, hg5, hg6⟩ := own_new hown)
                                  go_meet
                                  exact ⟨rfl, rfl, some ⟨g, 0, none⟩, cap, rfl, row_of_take hg4 (by simpa using hg6) snoc_at (Nat.zero_le _), below_grown ((World.grownBy_alloc w9 _ none).trans hgrow)⟩
                                · have e3 := hp3 (by omega)
                                  have e2 := hp2 (by omega)
                                  have e4 : wrap64 (num - tk) = num - tk := by unfold wrap64; omega
                                  have e5 : wrap64 (hd + (num - tk)) = pos := by unfold wrap64; omega
                                  clear hp1 hp2 hp3 e3 e2
                                  go_wp2_with (at_builtin; refine wpList_append_grows _ rfl _ _ 29 rfl 3 i0 (.int .i64 0) 1 8 Try.underlying29 hi hz0 hz1 hz2 rfl (by decide) ai3 ni ni ((List.range ni).map (fun i => Value.int .i64 (I i))) rfl hnone (by simp) (row_list hI9 (fun p hp => World.cell?_alloc_old _ _ _ (by omega))) ⟨w9.heap.size, 0, none⟩ 1 1 [.int .i64 ind] rfl rfl (cell_one_new _ _ _) (ints_oneCell .i64 [ind]) (by omega) (by unfold maxLen; omega) (by omega) ?_; intro v' w10 hown hgrow; obtain ⟨g, cap, cur, rfl, hg1, hg2, hg3, hg4, hg5, hg6⟩ := own_new hown)
                                  go_meet
                                  exact ⟨rfl, by first | rfl | simp [e5], some ⟨g, 0, none⟩, cap, rfl, row_of_take hg4 (by simpa using hg6) snoc_at (Nat.zero_le _), below_grown ((World.grownBy_alloc w9 _ none).trans hgrow)⟩
                          case rest =>
                            as_aux_lemma =>
                              obtain ⟨rfl, rfl, a42, c42, rfl, h42, hbc⟩ := hcut
                              have hBc := Below.next hB9 hbc
                              have hbz2 := Below.next hbz hbc
                              clear hI9 hbc hbz hB9 hB8 HF
                              have hgi' := hgi.below (Nat.le_refl _) hbz2
                              clear hgi
                              go_wp2_with fail
                              refine (same_any gi a42 mi ci8 c42 0 I' I' wc hP.hmi hgi' h42 (fun _ _ => rfl)).mono ?_
                              rintro e w11 ⟨rfl, hb11⟩
                              clear hgi' h42
                              have hbz3 := Below.next hbz2 hb11
                              have hB11 := Below.next hBc hb11
                              clear hbz2 hb11 hBc
                              go_upto_if 232 with fail
                              go_cut [44] (fun s44 wx => s44 = .int .i64 m ∧ w11 = wx)
                              case first =>
                                have hrl : rl = decide (fl ≤ 0 ∧ ind < col) := Hrl
                                cases rl with
                                | false =>
                                  as_aux_lemma =>
                                    have e1 := (hP.no (by simpa using hrl.symm)).1
                                    clear hrl
                                    go_wp2_with fail
                                    go_meet
                                    exact ⟨by rw [e1], rfl⟩
                                | true =>
                                  as_aux_lemma =>
                                    obtain ⟨hy1, hy2⟩ : fl ≤ 0 ∧ ind < col := by simpa using hrl.symm
                                    have e1 := (hP.yes hy1 hy2).1
                                    clear hrl
                                    go_wp2_with fail
                                    go_meet
                                    exact ⟨by rw [e1]; go_num, rfl⟩
                              case rest =>
                                as_aux_lemma =>
                                  obtain ⟨rfl, rfl⟩ := hcut
                                  have hm := hP.hm
                                  go_wp2
                                  go_loopg [45] m (fun q s45 wr => ∃ j : Nat, j ≤ m ∧ q = m - j ∧ s45 = .int .i64 j ∧ Below w11.heap.size w11 wr)
                                  case atStart => exact ⟨0, Nat.zero_le _, rfl, rfl, Below.refl _ _⟩
                                  case round =>
                                    obtain ⟨j, hj0, rfl, rfl, hBr⟩ := hrel
                                    by_cases hj : j < m
                                    · as_aux_lemma =>
                                        have hbr := Below.next hbz3 hBr
                                        have hb4 := Below.next hB11 hBr
                                        have hgk' := hgk.below (Nat.le_refl _) hbr
                                        have hgs' := hgs.below (Nat.le_refl _) hbr
                                        have hgl' := hgl.below (Nat.le_refl _) hbr
                                        have hgv' := hgv.below (Nat.le_refl _) hbr
                                        have hgh' := hgh.below (Nat.le_refl _) hbr
                                        have hgj' := hgj.below (Nat.le_refl _) hbr
                                        have hK' := hK4.below (Nat.le_refl _) hb4
                                        have hL' := hL4.below (Nat.le_refl _) hb4
                                        have hV' := hV4'.below (Nat.le_refl _) hb4
                                        clear hgk hgs hgl hgv hgh hgj hK4 hL4 hV4' hI4 hB4 hB11 hbz3 hbr hb4
                                        obtain ⟨b1, o1, ha1, hc1⟩ := hgk'
                                        obtain ⟨b2, o2, ha2, hc2⟩ := hgs'
                                        obtain ⟨b3, o3, ha3, hc3⟩ := hgl'
                                        obtain ⟨b4, o4, ha4, hc4⟩ := hgv'
                                        obtain ⟨b5, o5, ha5, hc5⟩ := hgh'
                                        obtain ⟨b6, o6, ha6, hc6⟩ := hgj'
                                        obtain ⟨b7, o7, ha7, hc7⟩ := hK'
                                        obtain ⟨b8, o8, ha8, hc8⟩ := hL'
                                        obtain ⟨b9, o9, ha9, hc9⟩ := hV'
                                        obtain ⟨rfl, _⟩ := ha1 (by omega)
                                        obtain ⟨rfl, _⟩ := ha2 (by omega)
                                        obtain ⟨rfl, _⟩ := ha3 (by omega)
                                        obtain ⟨rfl, _⟩ := ha4 (by omega)
                                        obtain ⟨rfl, _⟩ := ha5 (by omega)
                                        obtain ⟨rfl, _⟩ := ha6 (by omega)
                                        have d1 : wr.cell? ⟨b1, o1 + j, none⟩ = some (.int .u8 (K' j)) := hc1 j hj
                                        have d2 : wr.cell? ⟨b2, o2 + j, none⟩ = some (.int .u8 0) := hc2 j hj
                                        have d3 : wr.cell? ⟨b3, o3 + j, none⟩ = some (.int .i64 (L' j)) := hc3 j hj
                                        have d4 : wr.cell? ⟨b4, o4 + j, none⟩ = some (.string (S' j)) := hc4 j hj
                                        have d5 : wr.cell? ⟨b5, o5 + j, none⟩ = some (.string ByteArray.empty) := hc5 j hj
                                        have d6 : wr.cell? ⟨b6, o6 + j, none⟩ = some (.int .i64 0) := hc6 j hj
                                        clear hc1 hc2 hc3 hc4 hc5 hc6 ha1 ha2 ha3 ha4 ha5 ha6
                                        have hjz : (j : Int) < (m : Int) := by omega
                                        by_cases hp : (j : Int) = pos
                                        · as_aux_lemma =>
                                            obtain ⟨e1, e2, e3⟩ := hP.here j hj hp
                                            rw [e1] at d1
                                            rw [e2] at d3
                                            rw [e3] at d4
                                            subst hp
                                            clear hP hc7 hc8 hc9 ha7 ha8 ha9 e1 e2 e3
                                            go_wp2
                                            go_roundg (m - (j + 1))
                                            case measure => go_light; omega
                                            case rel => go_light; exact ⟨j + 1, by omega, rfl, by go_num, hBr⟩
                                        · by_cases hlt : (j : Int) < pos ∨ pos < 0
                                          · obtain ⟨hjn, e1, e2, e3⟩ := hP.before j hj hlt
                                            rw [e1] at d1
                                            rw [e2] at d3
                                            rw [e3] at d4
                                            obtain ⟨rfl, _⟩ := ha7 (by omega)
                                            obtain ⟨rfl, _⟩ := ha8 (by omega)
                                            obtain ⟨rfl, _⟩ := ha9 (by omega)
                                            have d7 : wr.cell? ⟨b7, o7 + j, none⟩ = some (.int .u8 (K j)) := hc7 j hjn
                                            have d8 : wr.cell? ⟨b8, o8 + j, none⟩ = some (.int .i64 (L j)) := hc8 j hjn
                                            have d9 : wr.cell? ⟨b9, o9 + j, none⟩ = some (.string (S j)) := hc9 j hjn
                                            clear hP hc7 hc8 hc9 ha7 ha8 ha9 e1 e2 e3
                                            have hjy : (j : Int) < (nv : Int) := by omega
                                            by_cases hneg : pos < 0
                                            · as_aux_lemma =>
                                                clear hlt
                                                go_wp2
                                                go_quiet (fail)
                                                go_wp2
                                                go_roundg (m - (j + 1))
                                                case measure => go_light; omega
                                                case rel => go_light; exact ⟨j + 1, by omega, rfl, by go_num, below_drewN hBr _⟩
                                            · as_aux_lemma =>
                                                have hlt' : (j : Int) < pos := by omega
                                                clear hlt
                                                go_wp2
                                                go_quiet (fail)
                                                go_wp2
                                                go_roundg (m - (j + 1))
                                                case measure => go_light; omega
                                                case rel => go_light; exact ⟨j + 1, by omega, rfl, by go_num, below_drewN hBr _⟩
                                          · as_aux_lemma =>
                                              obtain ⟨h1j, hjn, e1, e2, e3⟩ := hP.after j hj (by omega) (by omega)
                                              obtain ⟨o, rfl⟩ : ∃ o, j = o + 1 := ⟨j - 1, by omega⟩
                                              simp only [Nat.add_sub_cancel] at hjn e1 e2 e3
                                              rw [e1] at d1
                                              rw [e2] at d3
                                              rw [e3] at d4
                                              obtain ⟨rfl, _⟩ := ha7 (by omega)
                                              obtain ⟨rfl, _⟩ := ha8 (by omega)
                                              obtain ⟨rfl, _⟩ := ha9 (by omega)
                                              have d7 : wr.cell? ⟨b7, o7 + o, none⟩ = some (.int .u8 (K o)) := hc7 o hjn
                                              have d8 : wr.cell? ⟨b8, o8 + o, none⟩ = some (.int .i64 (L o)) := hc8 o hjn
                                              have d9 : wr.cell? ⟨b9, o9 + o, none⟩ = some (.string (S o)) := hc9 o hjn
                                              clear hP hc7 hc8 hc9 ha7 ha8 ha9 e1 e2 e3 h1j
                                              have hjy : (o : Int) < (nv : Int) := by omega
                                              have hg1 : pos < (o : Int) + 1 := by omega
                                              have hg2 : 0 ≤ pos := by omega
                                              clear hlt
                                              go_wp2
                                              go_quiet (fail)
                                              go_wp2
                                              go_roundg (m - (o + 1 + 1))
                                              case measure => go_light; omega
                                              case rel => go_light; exact ⟨o + 1 + 1, by omega, rfl, by go_num, below_drewN hBr _⟩
                                    · as_aux_lemma =>
                                        obtain rfl : m = j := by omega
                                        go_wp2
                                        go_ret
                                        exact ⟨rfl, Below.next hB4 (Below.next hB11 hBr)⟩
            · by_cases hl1 : nl = nk
              · as_aux_lemma =>
                  have hl2 : ¬ nv = nk := fun h => hlen ⟨hl1, h⟩
                  clear hlen
                  subst hl1
                  go_wp2
                  go_ret
                  exact ⟨rfl, Below.refl _ _⟩
              · as_aux_lemma =>
                  clear hlen
                  go_wp2
                  go_ret
                  exact ⟨rfl, Below.refl _ _⟩
          · as_aux_lemma =>
              go_wp2
              go_ret
              exact ⟨rfl, Below.refl _ _⟩
    · by_cases g1 : ni ≤ 65536
      · by_cases g2 : nk ≤ 65536
        · by_cases g3 : nl ≤ 65536
          · as_aux_lemma =>
              have g4 : ¬ nv ≤ 65536 := fun h => hle ⟨g1, g2, g3, h⟩
              clear hle
              go_wp2
              go_ret
              exact ⟨rfl, Below.refl _ _⟩
          · as_aux_lemma =>
              clear hle
              go_wp2
              go_ret
              exact ⟨rfl, Below.refl _ _⟩
        · as_aux_lemma =>
            clear hle
            go_wp2
            go_ret
            exact ⟨rfl, Below.refl _ _⟩
      · as_aux_lemma =>
          clear hle
          go_wp2
          go_ret
          exact ⟨rfl, Below.refl _ _⟩
end Go.Proofs.Qxb6601781a
