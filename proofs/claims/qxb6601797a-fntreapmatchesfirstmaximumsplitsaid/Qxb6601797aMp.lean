/- Walk: ZZMakePieces. -/
import Derived.Test.Qxb6601797aBuild
namespace Go.Proofs.Qxb6601797a
open Go.RowKit

theorem mp_nil (c : Nat) (X : Nat → Pc) (T : Nat → Nat → Int) (M : Nat → Nat → Mk) (w : World) :
    Calls Try.prog 18 #[.slice none 0 c] w fun e w' => RetPcs w none 121 0 X T M e w' := by
  have heq := fun w => Lib.run_eql_slice_nil (P := Try.prog) w 60 77 none 0 c 0 0 Try.underlying60
  go_enter Try.func18, Try.ntmps18
  go_wp2
  go_ret
  exact ⟨Below.refl _ _, .inl ⟨rfl, rfl⟩⟩

set_option maxHeartbeats 4000000 in
set_option maxRecDepth 100000 in
theorem mp_any (b n c : Nat) (X : Nat → Pc) (T : Nat → Nat → Int) (M : Nat → Nat → Mk) (w : World) (hn : n ≤ 65536) (hX : ∀ i, i < n → (X i).tn ≤ 1048576 ∧ (X i).mn ≤ 1048576)
    (hD : Pieces w b 77 n X T M) :
    Calls Try.prog 18 #[.slice (some ⟨b, 0, none⟩) n c] w fun e w' => RetPcs w (some ⟨b, 0, none⟩) 121 n X T M e w' := by
  obtain ⟨cs, hcs, hmk⟩ := run_make_any Try.underlying58 Try.size121 n (by omega)
  have heq := fun w => Lib.run_eql_slice_nil (P := Try.prog) w 60 77 (some ⟨b, 0, none⟩) n c 0 0 Try.underlying60
  go_enter Try.func18, Try.ntmps18
  go_wp2
  clear hmk heq
  go_loopg [4] n (fun q s4 wr => ∃ (k : Nat) (Y : Nat → Pc), k ≤ n ∧ q = n - k ∧ s4 = .int .i64 k ∧ Half wr w.heap.size 121 n k X Y T M ∧ Below w.heap.size w wr)
  case atStart =>
    refine ⟨0, X, Nat.zero_le _, rfl, rfl, ⟨⟨fun j => cs.getD j default, by have h := rowIs_new w 121 cs; rw [hcs] at h; exact h, fun i hi => by omega⟩, fun i hi => by omega, fun i hi => by omega, fun i hi => by omega⟩, (Below.refl _ _).alloc (Nat.le_refl _) _⟩
  case round =>
    obtain ⟨k, Y, hk, rfl, rfl, hH, hB⟩ := hrel
    by_cases hlt : k < n
    · have hbl : b < w.heap.size := World.block_lt_of_cell? _ _ (hD.row.cell (i := 0) (by omega))
      have ef : ∀ f, f < 31 → wr.cell? ⟨b, k * 31 + f, none⟩ = some ((X k).cell f) := fun f hf => (hB.cell (p := ⟨b, k * 31 + f, none⟩) hbl).trans ((hD.row.cell (by omega)).trans (by rw [pcs_at X k f hf]))
      have hgl : w.heap.size < wr.heap.size := by obtain ⟨F, h1, _⟩ := hH.row; exact World.block_lt_of_cell? _ _ (h1.cell (i := 0) (by omega))
      have hT' : RowN wr w.heap.size (X k).ta (X k).tn (fun j => .int .i32 (T k j)) := (RowN.of_old (hD.text k hlt).row (Nat.le_refl _)).below (Nat.le_refl _) hB
      have hM' := (hD.mark k hlt).row.below (Nat.le_refl _) hB
      obtain ⟨hX1, hX2⟩ := hX k hlt
      obtain ⟨x, hx⟩ : ∃ x, X k = x := ⟨_, rfl⟩
      rw [hx] at ef hT' hM' hX1 hX2
      have Hx : Hid (X k = x) := hx
      clear hx hX hD
      have hkz : (k : Int) < (n : Int) := by omega
      obtain ⟨site, seq, kk, ta, tn, tc, clock, del, ma, mn, mc, next, pl, pri, size⟩ := x
      simp only at hT' hM' hX1 hX2
      rename World => W1
      have Hef : Hid (∀ f, f < 31 → W1.cell? ⟨b, k * 31 + f, none⟩ = some (Pc.cell ⟨site, seq, kk, ta, tn, tc, clock, del, ma, mn, mc, next, pl, pri, size⟩ f)) := ef
      have c21 : W1.cell? ⟨b, k * 31 + 21, none⟩ = some (.slice ma mn mc) := ef 21 (by omega)
      clear ef
      have hs2 : b < W1.heap.size := by omega
      have hneq := fun w => run_neq_slice_nil (P := Try.prog) w 74 114 ma mn mc Try.underlying74
      go_upto_if 25 with fail
      go_cut [5] (fun s5 wx => ∃ ma', s5 = .slice ma' mn mn ∧ (ma' = none ↔ ma = none) ∧ Row wx W1.heap.size ma' (mn * 18) (mks (M k)) ∧ Below W1.heap.size W1 wx)
      case first =>
        cases ma with
        | none =>
          as_aux_lemma =>
            have hm0 := hM'.nil rfl
            obtain rfl : mn = 0 := by omega
            go_wp2_with fail
            go_meet
            exact ⟨none, rfl, by simp, Row.zero _ _ _ _, Below.refl _ _⟩
        | some am =>
          as_aux_lemma =>
            
            obtain ⟨cm, hcm, hmk⟩ := run_make_any Try.underlying112 Try.size116 mn (by omega)
            go_wp2
            clear hmk hneq
            go_loopg [6] mn (fun q s6 wx => ∃ j : Nat, j ≤ mn ∧ q = mn - j ∧ s6 = .int .i64 j ∧ Part wx W1.heap.size 116 (mn * 18) (j * 18) (mks (M k)) ∧ Below W1.heap.size W1 wx)
            case atStart => exact ⟨0, Nat.zero_le _, rfl, rfl, ⟨fun i => cm.getD i default, by have h := rowIs_new W1 116 cm; rw [hcm] at h; exact h, fun i hi => by omega⟩, (Below.refl _ _).alloc (Nat.le_refl _) _⟩
            case round =>
              obtain ⟨j, hj0, rfl, rfl, hP, hBx⟩ := hrel
              have d21 : wr.cell? ⟨b, k * 31 + 21, none⟩ = some (.slice (some am) mn mc) := (hBx.cell (p := ⟨b, k * 31 + 21, none⟩) hs2).trans c21
              by_cases hj : j < mn
              · obtain ⟨bm, om, ha, hcM⟩ := hM'
                obtain ⟨e, _⟩ := ha (by omega)
                obtain rfl := Option.some.inj e
                have hbm : bm < W1.heap.size := World.block_lt_of_cell? _ _ (Row.mk hcM hj 0 (by omega))
                have df : ∀ f, f < 18 → wr.cell? ⟨bm, om + j * 18 + f, none⟩ = some ((M k j).cell f) := fun f hf => (hBx.cell (p := ⟨bm, om + j * 18 + f, none⟩) hbm).trans (Row.mk hcM hj f hf)
                obtain ⟨m, hm⟩ : ∃ m, M k j = m := ⟨_, rfl⟩
                rw [hm] at df
                have Hm : Hid (M k j = m) := hm
                clear hm
                obtain ⟨msite, mseq, mhide⟩ := m
                have d17 : wr.cell? ⟨bm, om + j * 18 + 17, none⟩ = some (.bool mhide) := df 17 (by omega)
                have drg := Mk.range17 df
                obtain ⟨S17, hS17⟩ : ∃ S, (List.range 17).map (Mk.cell ⟨msite, mseq, mhide⟩) = S := ⟨_, rfl⟩
                rw [hS17] at drg
                have HS : Hid (Mk.list ⟨msite, mseq, mhide⟩ = S17 ++ [Value.bool mhide]) := by rw [← hS17]; rfl
                have hSl : S17.length = 17 := by rw [← hS17]; simp
                have Hi30 : Hid ((Try.prog.info? 30).map (·.size) = some S17.length) := by rw [hSl]; exact Try.size30
                have Hb2 : Hid (Try.prog.built 116 [(0, .agg S17.toArray), (1, .bool mhide)] = some (S17 ++ [Value.bool mhide]).toArray) := built116 hSl mhide
                obtain ⟨S18, hS18⟩ : ∃ S, S17 ++ [Value.bool mhide] = S := ⟨_, rfl⟩
                rw [hS18] at HS Hb2
                have Hrg : Hid (wr.rangeAt bm (om + j * 18) S17) := drg
                have hP' : Hid (Part wr W1.heap.size 116 (mn * 18) (j * 18) (mks (M k))) := hP
                obtain ⟨F, q0, r0⟩ := hP
                have Hth : Hid (wr.there W1.heap.size (j * 18) 18) := rowIs_there q0 (by omega)
                clear df hSl hS17 hS18 q0 r0 drg hT'
                have hn1 : bm ≠ W1.heap.size := by omega
                have hn2 : b ≠ W1.heap.size := by omega
                have hjz : (j : Int) < (mn : Int) := by omega
                go_wp2
                refine wp_region_last (by kernel_rfl) rfl (by kernel_rfl) ?_
                dsimp only [initL, lastL]
                iterate 10 (go_big_quiet_step (fail))
                go_big_quiet_want
                refine quiet_load_mid 30 (.tmp 52) rfl bm (om + j * 18) rfl S17 _ Hrg Try.underlying30 rfl Hi30 ?_
                go_simp
                go_big_quiet_on
                iterate 9 (go_big_quiet_step (fail))
                go_big_quiet_want
                refine quiet_build 116 [(0, .tmp 53), (1, .tmp 62)] rfl _ rfl _ Hb2 ?_
                go_simp
                go_big_quiet_on
                iterate 1 (go_big_quiet_step (fail))
                refine wpQuiet_nil ?_
                intro wz hz
                obtain ⟨nq, rfl⟩ := hz
                have hPn : Part ((wr.drewN nq).setCells W1.heap.size (j * 18) (M k j).list) W1.heap.size 116 (mn * 18) ((j + 1) * 18) (mks (M k)) := Part.mark (w := wr.drewN nq) hP' _ rfl
                have hBn : Below W1.heap.size W1 ((wr.drewN nq).setCells W1.heap.size (j * 18) (M k j).list) := setCells_below (Nat.le_refl _) _ (below_drewN hBx nq)
                rw [show M k j = ⟨msite, mseq, mhide⟩ from Hm] at hPn hBn
                rw [HS] at hPn hBn
                have hl18 : S18.length = 18 := by rw [← show Mk.list ⟨msite, mseq, mhide⟩ = S18 from HS]; exact Mk.list_length _
                have h1c : ∀ v ∈ S18, v.oneCell' = true := by rw [← show Mk.list ⟨msite, mseq, mhide⟩ = S18 from HS]; exact Mk.list_one _
                obtain ⟨Wn, hWn⟩ : ∃ W, (wr.drewN nq).setCells W1.heap.size (j * 18) S18 = W := ⟨_, rfl⟩
                rw [hWn] at hPn hBn
                refine wpList_store_to rfl 116 (.tmp 64) (.tmp 63) rfl W1.heap.size (j * 18) S18 Wn hWn rfl rfl (by rw [hl18]; exact Hth) (by rw [hl18]; exact Try.size116') h1c ?_
                clear hWn hl18 h1c
                have HPn : Hid (Part Wn W1.heap.size 116 (mn * 18) ((j + 1) * 18) (mks (M k))) := hPn
                clear hPn
                refine wpList_nil ?_
                go_wp2
                go_roundg (mn - (j + 1))
                case measure => go_light; omega
                case rel =>
                  go_light
                  exact ⟨j + 1, by omega, rfl, by go_num, HPn, hBn⟩
              · obtain rfl : mn = j := by omega
                go_wp2
                go_meet
                exact ⟨some ⟨W1.heap.size, 0, none⟩, rfl, by simp, Part.row hP (by omega), hBx⟩
      case rest =>
        obtain ⟨ma', rfl, hmn, hM3, hB3⟩ := hcut
        clear hneq c21 hM'
        have Hef3 : Hid (∀ f, f < 31 → wc.cell? ⟨b, k * 31 + f, none⟩ = some (Pc.cell ⟨site, seq, kk, ta, tn, tc, clock, del, ma, mn, mc, next, pl, pri, size⟩ f)) := fun f hf => (hB3.cell (p := ⟨b, k * 31 + f, none⟩) hs2).trans (Hef f hf)
        have hT3 := hT'.below (Nat.le_refl _) hB3
        have hwr := hB3.size
        have hs4 : b < wc.heap.size := Nat.lt_of_lt_of_le hs2 hB3.size
        have hH4 := hH.below hgl hB3
        have hB5 := Below.next hB hB3
        clear hH hB hB3 Hef hT'
        go_wp2
        go_loopg [8] 2 (fun q s8 wx => ∃ j : Nat, j ≤ 2 ∧ q = 2 - j ∧ s8 = .int .i64 j ∧ Part wx wc.heap.size 119 6 (j * 3) (plv pl) ∧ Below wc.heap.size wc wx)
        case atStart => exact ⟨0, by omega, rfl, rfl, ⟨_, rowIs_new wc 119 _, fun i hi => by omega⟩, (Below.refl _ _).alloc (Nat.le_refl _) _⟩
        case round =>
          obtain ⟨j, hj0, rfl, rfl, hP, hBx⟩ := hrel
          have Hef4 : Hid (∀ f, f < 31 → wr.cell? ⟨b, k * 31 + f, none⟩ = some (Pc.cell ⟨site, seq, kk, ta, tn, tc, clock, del, ma, mn, mc, next, pl, pri, size⟩ f)) := fun f hf => (hBx.cell (p := ⟨b, k * 31 + f, none⟩) hs4).trans (Hef3 f hf)
          by_cases hj : j < 2
          · as_aux_lemma =>
              
              have dd : ∀ c, c < 3 → wr.cell? ⟨b, k * 31 + 23 + j * 3 + c, none⟩ = some (.int .i32 (pl (j * 3 + c))) := fun c h3 => by
                rw [show k * 31 + 23 + j * 3 + c = k * 31 + (23 + (j * 3 + c)) by omega]
                exact (Hef4 _ (by omega)).trans (by rw [pl_cell _ hj h3])
              have d0 : wr.cell? ⟨b, k * 31 + 23 + j * 3, none⟩ = some (.int .i32 (pl (j * 3))) := dd 0 (by omega)
              have d1 : wr.cell? ⟨b, k * 31 + 23 + j * 3 + 1, none⟩ = some (.int .i32 (pl (j * 3 + 1))) := dd 1 (by omega)
              have d2 : wr.cell? ⟨b, k * 31 + 23 + j * 3 + 2, none⟩ = some (.int .i32 (pl (j * 3 + 2))) := dd 2 (by omega)
              have Hb : Hid (Try.prog.built 118 [(0, .int .i32 (pl (j * 3))), (1, .int .i32 (pl (j * 3 + 1))), (2, .int .i32 (pl (j * 3 + 2)))] = some [Value.int .i32 (pl (j * 3)), .int .i32 (pl (j * 3 + 1)), .int .i32 (pl (j * 3 + 2))].toArray) := built118 _ _ _
              have hP' : Hid (Part wr wc.heap.size 119 6 (j * 3) (plv pl)) := hP
              have Hth : Hid (wr.there wc.heap.size (j * 3) 3) := by obtain ⟨F, q0, _⟩ := hP; exact rowIs_there q0 (by omega)
              have hjz : (j : Int) < 2 := by omega
              clear dd hP hH4 hB5 hT3 hM3 Hef3 Hef4
              go_wp2
              refine wp_region_last (by kernel_rfl) rfl (by kernel_rfl) ?_
              dsimp only [initL, lastL]
              iterate 25 (go_big_quiet_step (fail))
              go_big_quiet_want
              refine quiet_build 118 [(0, .tmp 77), (1, .tmp 85), (2, .tmp 93)] rfl _ rfl _ Hb ?_
              go_simp
              go_big_quiet_on
              iterate 1 (go_big_quiet_step (fail))
              refine wpQuiet_nil ?_
              intro wz hz
              obtain ⟨nq, rfl⟩ := hz
              have hPn : Part ((wr.drewN nq).setCells wc.heap.size (j * 3) [plv pl (j * 3), plv pl (j * 3 + 1), plv pl (j * 3 + 2)]) wc.heap.size 119 6 ((j + 1) * 3) (plv pl) := Part.three (w := wr.drewN nq) hP' _ rfl
              have hBn : Below wc.heap.size wc ((wr.drewN nq).setCells wc.heap.size (j * 3) [plv pl (j * 3), plv pl (j * 3 + 1), plv pl (j * 3 + 2)]) := setCells_below (Nat.le_refl _) _ (below_drewN hBx nq)
              obtain ⟨Wn, hWn⟩ : ∃ W, (wr.drewN nq).setCells wc.heap.size (j * 3) [plv pl (j * 3), plv pl (j * 3 + 1), plv pl (j * 3 + 2)] = W := ⟨_, rfl⟩
              rw [hWn] at hPn hBn
              refine wpList_store_to rfl 118 (.tmp 95) (.tmp 94) rfl wc.heap.size (j * 3) _ Wn hWn rfl rfl Hth Try.size118 (by simp [plv, Value.oneCell']) ?_
              clear hWn
              have HPn : Hid (Part Wn wc.heap.size 119 6 ((j + 1) * 3) (plv pl)) := hPn
              clear hPn
              refine wpList_nil ?_
              go_wp2
              go_roundg (2 - (j + 1))
              case measure => go_light; omega
              case rel =>
                go_light
                exact ⟨j + 1, by omega, rfl, by go_num, HPn, hBn⟩
          · as_aux_lemma =>
              
              have hPf : Part wr wc.heap.size 119 6 6 (plv pl) := by
                obtain rfl : j = 2 := by omega
                exact hP
              have HU : Hid (wr.rangeAt wc.heap.size 0 (plist pl)) := hPf.range
              have c17 : wr.cell? ⟨b, k * 31 + 17, none⟩ = some (.int .i64 kk) := Hef4 17 (by omega)
              have c18 : wr.cell? ⟨b, k * 31 + 18, none⟩ = some (.slice ta tn tc) := Hef4 18 (by omega)
              have c19 : wr.cell? ⟨b, k * 31 + 19, none⟩ = some (.int .u64 clock) := Hef4 19 (by omega)
              have c20 : wr.cell? ⟨b, k * 31 + 20, none⟩ = some (.bool del) := Hef4 20 (by omega)
              have c22 : wr.cell? ⟨b, k * 31 + 22, none⟩ = some (.int .i32 next) := Hef4 22 (by omega)
              have c29 : wr.cell? ⟨b, k * 31 + 29, none⟩ = some (.int .u64 pri) := Hef4 29 (by omega)
              have c30 : wr.cell? ⟨b, k * 31 + 30, none⟩ = some (.int .i64 size) := Hef4 30 (by omega)
              have drg := Pc.range17 Hef4
              obtain ⟨y, hy⟩ : ∃ y : Pc, y = ⟨site, seq, kk, ta, tn, tc, clock, del, ma', mn, mn, next, pl, pri, size⟩ := ⟨_, rfl⟩
              have hyl : y.list = ((Pc.site16 ⟨site, seq, kk, ta, tn, tc, clock, del, ma, mn, mc, next, pl, pri, size⟩ ++ [Value.int .u64 seq]) ++ [Value.int .i64 kk]) ++ [Value.slice ta tn tc, .int .u64 clock, .bool del, .slice ma' mn mn, .int .i32 next] ++ plist pl ++ [Value.int .u64 pri, Value.int .i64 size] := by subst hy; rfl
              have hs17 : (Pc.site16 ⟨site, seq, kk, ta, tn, tc, clock, del, ma, mn, mc, next, pl, pri, size⟩ ++ [Value.int .u64 seq]).length = 17 := by rw [List.length_append, Pc.site16_length]; rfl
              simp only at drg
              generalize Pc.site16 ⟨site, seq, kk, ta, tn, tc, clock, del, ma, mn, mc, next, pl, pri, size⟩ ++ [Value.int .u64 seq] = S17 at drg hyl hs17
              have hB1 := built103 hs17 kk
              have hs18 : (S17 ++ [Value.int .i64 kk]).length = 18 := by simp [hs17]
              generalize S17 ++ [Value.int .i64 kk] = S18 at hyl hB1 hs18
              have HB1 : Hid (Try.prog.built 103 [(0, .agg S17.toArray), (1, .int .i64 kk)] = some S18.toArray) := hB1
              have hB2 := built121 hs18 (plist_length pl) ta tn tc clock del ma' mn mn next pri size
              rw [← hyl] at hB2
              clear hyl hB1 hs18
              have hul : (plist pl).length = 6 := plist_length pl
              generalize plist pl = U at HU hB2 hul
              have Hi75 : Hid ((Try.prog.info? 119).map (·.size) = some U.length) := by rw [hul]; exact Try.size119
              have Hi30 : Hid ((Try.prog.info? 30).map (·.size) = some S17.length) := by rw [hs17]; exact Try.size30
              have Hrg : Hid (wr.rangeAt b (k * 31) S17) := drg
              have HB2 : Hid (Try.prog.built 121 [(0, .agg S18.toArray), (1, .slice ta tn tc), (2, .int .u64 clock), (3, .bool del), (4, .slice ma' mn mn), (5, .int .i32 next), (6, .agg U.toArray), (7, .int .u64 pri), (8, .int .i64 size)] = some y.list.toArray) := hB2
              have hal : Alike (X k) y := by
                rw [show X k = ⟨site, seq, kk, ta, tn, tc, clock, del, ma, mn, mc, next, pl, pri, size⟩ from Hx]
                subst hy
                exact ⟨fun _ _ => rfl, rfl, rfl, rfl, Iff.rfl, rfl, rfl, rfl, hmn, rfl, fun _ _ => rfl, rfl, rfl⟩
              have hw0 : w.heap.size < wc.heap.size := by omega
              have hT5 : RowN wr w.heap.size y.ta y.tn (fun j => .int .i32 (T k j)) := by subst hy; exact hT3.below (Nat.le_refl _) hBx
              have hM5 : RowN wr w.heap.size y.ma (y.mn * 18) (mks (M k)) := by subst hy; exact RowN.of_row (hM3.below (Nat.le_refl _) hBx) (by omega)
              have hH5 := hH4.below hw0 hBx
              have hth : wr.there w.heap.size (k * 31) y.list.length := by
                obtain ⟨F, h1, _⟩ := hH5.row
                rw [Pc.list_length]
                exact rowIs_there h1 (by omega)
              have Hth : Hid _ := hth
              have hHn := hH5.step y hal hT5 hM5 y.list rfl
              have hBn : Below w.heap.size w (wr.setCells w.heap.size (k * 31) y.list) := setCells_below (Nat.le_refl _) _ (Below.next hB5 hBx)
              obtain ⟨Wn, hWn⟩ : ∃ W, wr.setCells w.heap.size (k * 31) y.list = W := ⟨_, rfl⟩
              rw [hWn] at hHn hBn
              have HWn : Hid _ := hWn
              have HHn : Hid _ := hHn
              have HBn : Hid _ := hBn
              have Hi77 : Hid ((Try.prog.info? 121).map (·.size) = some y.list.length) := by rw [Pc.list_length]; exact Try.size121'
              clear hHn hBn hWn hth hH5 hT5 hM5 hal hB2 hul hs17 drg hy hPf hP hH4 hB5 hT3 hM3 Hef3 Hef4
              go_upto_region 19 with fail
              refine wp_region_last (by kernel_rfl) rfl (by kernel_rfl) ?_
              dsimp only [initL, lastL]
              iterate 6 (go_big_quiet_step (fail))
              go_big_quiet_want
              refine quiet_load_mid 30 (.tmp 101) rfl b (k * 31) rfl S17 _ Hrg Try.underlying30 rfl Hi30 ?_
              go_simp
              go_big_quiet_on
              iterate 5 (go_big_quiet_step (fail))
              go_big_quiet_want
              refine quiet_build 103 [(0, .tmp 102), (1, .tmp 107)] rfl _ rfl _ HB1 ?_
              go_simp
              go_big_quiet_on
              iterate 21 (go_big_quiet_step (fail))
              go_big_quiet_want
              refine quiet_load_mid 119 (.tmp 7) rfl wc.heap.size 0 rfl U _ HU Try.underlying119 rfl Hi75 ?_
              go_simp
              go_big_quiet_on
              iterate 10 (go_big_quiet_step (fail))
              go_big_quiet_want
              refine quiet_build 121 [(0, .tmp 108), (1, .tmp 113), (2, .tmp 118), (3, .tmp 123), (4, .tmp 124), (5, .tmp 129), (6, .tmp 130), (7, .tmp 135), (8, .tmp 140)] rfl _ rfl _ HB2 ?_
              go_simp
              go_big_quiet_on
              iterate 1 (go_big_quiet_step (fail))
              refine wpQuiet_nil ?_
              intro wz hz
              obtain ⟨nq, rfl⟩ := hz
              refine wpList_store_to rfl 121 (.tmp 142) (.tmp 141) rfl w.heap.size (k * 31) y.list (Wn.drewN nq) (by rw [← show wr.setCells w.heap.size (k * 31) y.list = Wn from HWn]; exact setCells_drewN _) rfl rfl Hth Hi77 y.list_one ?_
              refine wpList_nil ?_
              go_wp2
              go_roundg (n - (k + 1))
              case measure => go_light; omega
              case rel =>
                go_light
                exact ⟨k + 1, _, by omega, rfl, by go_num, Half.drewN HHn nq, below_drewN HBn nq⟩
    · as_aux_lemma =>
        obtain rfl : n = k := by omega
        go_wp2
        go_ret
        exact ⟨hB, .inr ⟨_, Y, by simp, rfl, Nat.le_refl _, hH.full, hH.alike⟩⟩
end Go.Proofs.Qxb6601797a
