/- Walk: zPieces. -/
import Derived.Test.Qxb6601797aBuild
namespace Go.Proofs.Qxb6601797a
open Go.RowKit

theorem zp_nil (c : Nat) (X : Nat → Pc) (T : Nat → Nat → Int) (M : Nat → Nat → Mk) (w : World) :
    Calls Try.prog 19 #[.slice none 0 c] w fun e w' => RetPcs w none 77 0 X T M e w' := by
  have heq := fun w => Lib.run_eql_slice_nil (P := Try.prog) w 51 70 none 0 c 0 0 Try.underlying51
  go_enter Try.func19, Try.ntmps19
  go_wp2
  go_ret
  exact ⟨Below.refl _ _, .inl ⟨rfl, rfl⟩⟩

set_option maxHeartbeats 4000000 in
set_option maxRecDepth 100000 in
theorem zp_any (a0 : Addr) (n c : Nat) (X : Nat → Pc) (T : Nat → Nat → Int) (M : Nat → Nat → Mk) (w : World) (hn : n ≤ 65536) (hX : ∀ i, i < n → (X i).tn ≤ 1048576 ∧ (X i).mn ≤ 1048576)
    (hD : Data w 0 (some a0) n X T M) :
    Calls Try.prog 19 #[.slice (some a0) n c] w fun e w' => RetPcs w (some a0) 77 n X T M e w' := by
  obtain ⟨cs, hcs, hmk⟩ := run_make_any Try.underlying60 Try.size77 n (by omega)
  have heq := fun w => Lib.run_eql_slice_nil (P := Try.prog) w 51 70 (some a0) n c 0 0 Try.underlying51
  go_enter Try.func19, Try.ntmps19
  go_wp2
  clear hmk heq
  have hDr := hD.row
  obtain ⟨b, off, hab, hc⟩ := hDr
  go_loopg [4] n (fun q s4 wr => ∃ (k : Nat) (Y : Nat → Pc), k ≤ n ∧ q = n - k ∧ s4 = .int .i64 k ∧ Half wr w.heap.size 77 n k X Y T M ∧ Below w.heap.size w wr)
  case atStart =>
    refine ⟨0, X, Nat.zero_le _, rfl, rfl, ⟨⟨fun j => cs.getD j default, by have h := rowIs_new w 77 cs; rw [hcs] at h; exact h, fun i hi => by omega⟩, fun i hi => by omega, fun i hi => by omega, fun i hi => by omega⟩, (Below.refl _ _).alloc (Nat.le_refl _) _⟩
  case round =>
    obtain ⟨k, Y, hk, rfl, rfl, hH, hB⟩ := hrel
    by_cases hlt : k < n
    · obtain ⟨e, _⟩ := hab (by omega)
      obtain rfl := Option.some.inj e
      have hbl : b < w.heap.size := World.block_lt_of_cell? _ _ (Row.pc hc hlt 18 (by omega))
      have ef : ∀ f, f < 31 → wr.cell? ⟨b, off + k * 31 + f, none⟩ = some ((X k).cell f) := fun f hf => (hB.cell (p := ⟨b, off + k * 31 + f, none⟩) hbl).trans (Row.pc hc hlt f hf)
      have hgl : w.heap.size < wr.heap.size := by obtain ⟨F, h1, _⟩ := hH.row; exact World.block_lt_of_cell? _ _ (h1.cell (i := 0) (by omega))
      have hT := hD.text k hlt
      have hM := hD.mark k hlt
      obtain ⟨hX1, hX2⟩ := hX k hlt
      have hT' := hT.below (Nat.le_refl _) hB
      have hM' := hM.below (Nat.le_refl _) hB
      obtain ⟨x, hx⟩ : ∃ x, X k = x := ⟨_, rfl⟩
      rw [hx] at ef hT' hM' hX1 hX2
      have Hx : Hid (X k = x) := hx
      clear hx hT hM hX
      have hkz : (k : Int) < (n : Int) := by omega
      have hrg : wr.rangeAt b (off + k * 31) x.list := fun j v hj => by
        have hj31 : j < 31 := by
          rcases Nat.lt_or_ge j 31 with h | h
          · exact h
          · rw [List.getElem?_eq_none (by rw [Pc.list_length]; exact h)] at hj; cases hj
        rw [Pc.list_get x j hj31] at hj
        cases hj
        exact ef j hj31
      clear ef
      have hs70 : (Try.prog.info? 70).map (·.size) = some x.list.length := by rw [Pc.list_length]; exact Try.size70
      go_upto_region 8 with (first | (refine wpList_load_mid rfl 70 (.tmp 25) rfl b (off + k * 31) rfl x.list _ hrg Try.underlying70 rfl hs70 ?_) | (refine wpList_store_mid rfl 70 (.tmp 5) (.tmp 26) rfl wr.heap.size 0 x.list.toArray rfl rfl ?_ (by rw [List.size_toArray]; exact hs70) (all_oneCell_toArray x.list_one) ?_))
      case refine_1 => exact rowIs_there (rowIs_new wr 70 _) (by rw [List.size_toArray, Pc.list_length]; simp)
      generalize hZ : (#[Value.int IntKind.u8 0, Value.int IntKind.u8 0, Value.int IntKind.u8 0, Value.int IntKind.u8 0,
              Value.int IntKind.u8 0, Value.int IntKind.u8 0, Value.int IntKind.u8 0, Value.int IntKind.u8 0,
              Value.int IntKind.u8 0, Value.int IntKind.u8 0, Value.int IntKind.u8 0, Value.int IntKind.u8 0,
              Value.int IntKind.u8 0, Value.int IntKind.u8 0, Value.int IntKind.u8 0, Value.int IntKind.u8 0,
              Value.int IntKind.u64 0, Value.int IntKind.i64 0, Value.slice none 0 0, Value.int IntKind.u64 0,
              Value.bool false, Value.slice none 0 0, Value.int IntKind.i32 0, Value.int IntKind.i32 0,
              Value.int IntKind.i32 0, Value.int IntKind.i32 0, Value.int IntKind.i32 0, Value.int IntKind.i32 0,
              Value.int IntKind.i32 0, Value.int IntKind.u64 0, Value.int IntKind.i64 0] : Array Value) = Z
      have hZs : Z.size = 31 := by rw [← hZ]; rfl
      clear hZ
      obtain ⟨bx, hbx⟩ : ∃ q, wr.heap.size = q := ⟨_, rfl⟩
      have hbox : ((wr.alloc (.cells Z 70)).setCells wr.heap.size 0 x.list).rowIs wr.heap.size 70 31 x.cell := by
        have h0 := setCells_row x.list (o := 0) (rowIs_new wr 70 Z)
        rw [hZs] at h0
        refine h0.congr (fun j hj => ?_)
        rw [if_pos ⟨Nat.zero_le _, by rw [Pc.list_length]; omega⟩, Nat.sub_zero, List.getD_eq_getElem?_getD, Pc.list_get x j hj]
        rfl
      have hB1 : Below wr.heap.size wr ((wr.alloc (.cells Z 70)).setCells wr.heap.size 0 x.list) := setCells_below (Nat.le_refl _) _ ((Below.refl _ _).alloc (Nat.le_refl _) _)
      have hs1 : ((wr.alloc (.cells Z 70)).setCells wr.heap.size 0 x.list).heap.size = wr.heap.size + 1 := by rw [setCells_size]; simp
      generalize (wr.alloc (.cells Z 70)).setCells wr.heap.size 0 x.list = W1 at hbox hB1 hs1 ⊢
      have hT1 := hT'.below (Nat.le_refl _) hB1
      have hM1 := hM'.below (Nat.le_refl _) hB1
      clear hT' hM' hrg hs70
      rw [hbx] at hbox hs1 ⊢
      have hs2 : bx < W1.heap.size := by omega
      clear hs1
      obtain ⟨site, seq, kk, ta, tn, tc, clock, del, ma, mn, mc, next, pl, pri, size⟩ := x
      simp only at hT1 hM1 hX1 hX2
      have c18 : W1.cell? ⟨bx, 18, none⟩ = some (.slice ta tn tc) := hbox.cell (by omega)
      have c21 : W1.cell? ⟨bx, 21, none⟩ = some (.slice ma mn mc) := hbox.cell (by omega)
      have hneq := fun w => run_neq_slice_nil (P := Try.prog) w 52 21 ta tn tc Try.underlying52
      go_upto_if 29 with fail
      go_cut [6] (fun s6 wx => ∃ ta', s6 = .slice ta' tn tn ∧ (ta' = none ↔ ta = none) ∧ Row wx bx ta' tn (fun j => .int .i32 (T k j)) ∧ Below W1.heap.size W1 wx)
      case first =>
        cases ta with
        | none =>
          as_aux_lemma =>
            obtain rfl : tn = 0 := hT1.nil rfl
            go_wp2_with fail
            go_meet
            exact ⟨none, rfl, by simp, Row.zero _ _ _ _, Below.refl _ _⟩
        | some at' =>
          as_aux_lemma =>
            have hmk := run_make_row' (P := Try.prog) 52 21 (.int .i32 0) 4 Try.underlying52 Try.info21 rfl .i64 .i64 tn (by omega) (by omega)
            go_wp2
            clear hmk hneq
            go_loopg [7] tn (fun q s7 wx => ∃ j : Nat, j ≤ tn ∧ q = tn - j ∧ s7 = .int .i64 j ∧ Part wx W1.heap.size 21 tn j (fun j => .int .i32 (T k j)) ∧ Below W1.heap.size W1 wx)
            case atStart => exact ⟨0, Nat.zero_le _, rfl, rfl, Part.fresh _ _ _ _ _, (Below.refl _ _).alloc (Nat.le_refl _) _⟩
            case round =>
              obtain ⟨j, hj0, rfl, rfl, hP, hBx⟩ := hrel
              have d18 : wr.cell? ⟨bx, 18, none⟩ = some (.slice (some at') tn tc) := (hBx.cell (p := ⟨bx, 18, none⟩) (by show bx < W1.heap.size; omega)).trans c18
              by_cases hj : j < tn
              · obtain ⟨bt, ot, ha, hcT⟩ := hT1
                obtain ⟨e, _⟩ := ha (by omega)
                obtain rfl := Option.some.inj e
                have hbt : bt < W1.heap.size := World.block_lt_of_cell? _ _ (hcT j hj)
                have d1 : wr.cell? ⟨bt, ot + j, none⟩ = some (.int .i32 (T k j)) := (hBx.cell (p := ⟨bt, ot + j, none⟩) hbt).trans (hcT j hj)
                have hP' : Hid (Part wr W1.heap.size 21 tn j (fun j => .int .i32 (T k j))) := hP
                obtain ⟨F, q0, r0⟩ := hP
                have y0 := q0.cell hj
                have z0 := q0.frozen j
                have hn1 : bt ≠ W1.heap.size := by omega
                have hn2 : bx ≠ W1.heap.size := by omega
                go_wp2
                go_roundg (tn - (j + 1))
                case measure => go_light; omega
                case rel => go_light; exact ⟨j + 1, by omega, rfl, by go_num, Part.own hP' rfl, hBx.setCell (p := ⟨W1.heap.size, j, none⟩) (Nat.le_refl _) _⟩
              · obtain rfl : tn = j := by omega
                go_wp2
                go_meet
                exact ⟨some ⟨W1.heap.size, 0, none⟩, rfl, by simp, Part.row hP (by omega), hBx⟩
      case rest =>
        obtain ⟨ta', rfl, htn, hT2, hB2⟩ := hcut
        clear hneq c18 hT1
        have hbox2 := hbox.of_block (hB2.block bx hs2)
        have c21' : wc.cell? ⟨bx, 21, none⟩ = some (.slice ma mn mc) := hbox2.cell (by omega)
        have hM2 := hM1.below (Nat.le_refl _) hB2
        have hneq := fun w => run_neq_slice_nil (P := Try.prog) w 67 123 ma mn mc Try.underlying67
        have hs3 : bx < wc.heap.size := Nat.lt_of_lt_of_le hs2 hB2.size
        go_upto_if 51 with fail
        go_cut [8] (fun s8 wx => ∃ ma', s8 = .slice ma' mn mn ∧ (ma' = none ↔ ma = none) ∧ Row wx bx ma' (mn * 18) (mks (M k)) ∧ Below wc.heap.size wc wx)
        case first =>
          cases ma with
          | none =>
            as_aux_lemma =>
              have hm0 := hM2.nil rfl
              obtain rfl : mn = 0 := by omega
              go_wp2_with fail
              go_meet
              exact ⟨none, rfl, by simp, Row.zero _ _ _ _, Below.refl _ _⟩
          | some am =>
            as_aux_lemma =>
              obtain ⟨cm, hcm, hmk⟩ := run_make_any Try.underlying74 Try.size114 mn (by omega)
              go_wp2
              clear hmk hneq
              go_loopg [9] mn (fun q s9 wx => ∃ j : Nat, j ≤ mn ∧ q = mn - j ∧ s9 = .int .i64 j ∧ Part wx wc.heap.size 114 (mn * 18) (j * 18) (mks (M k)) ∧ Below wc.heap.size wc wx)
              case atStart => exact ⟨0, Nat.zero_le _, rfl, rfl, ⟨fun i => cm.getD i default, by have h := rowIs_new wc 114 cm; rw [hcm] at h; exact h, fun i hi => by omega⟩, (Below.refl _ _).alloc (Nat.le_refl _) _⟩
              case round =>
                obtain ⟨j, hj0, rfl, rfl, hP, hBx⟩ := hrel
                have d21 : wr.cell? ⟨bx, 21, none⟩ = some (.slice (some am) mn mc) := (hBx.cell (p := ⟨bx, 21, none⟩) hs3).trans c21'
                by_cases hj : j < mn
                · obtain ⟨bm, om, ha, hcM⟩ := hM2
                  obtain ⟨e, _⟩ := ha (by omega)
                  obtain rfl := Option.some.inj e
                  have hbm : bm < wc.heap.size := World.block_lt_of_cell? _ _ (Row.mk hcM hj 0 (by omega))
                  have df : ∀ f, f < 18 → wr.cell? ⟨bm, om + j * 18 + f, none⟩ = some ((M k j).cell f) := fun f hf => (hBx.cell (p := ⟨bm, om + j * 18 + f, none⟩) hbm).trans (Row.mk hcM hj f hf)
                  obtain ⟨m, hm⟩ : ∃ m, M k j = m := ⟨_, rfl⟩
                  rw [hm] at df
                  have Hm : Hid (M k j = m) := hm
                  clear hm
                  obtain ⟨msite, mseq, mhide⟩ := m
                  have d16 : wr.cell? ⟨bm, om + j * 18 + 16, none⟩ = some (.int .u64 mseq) := df 16 (by omega)
                  have d17 : wr.cell? ⟨bm, om + j * 18 + 17, none⟩ = some (.bool mhide) := df 17 (by omega)
                  have drg := mk_range df
                  obtain ⟨S16, hS16⟩ : ∃ S, (List.range 16).map (Mk.cell ⟨msite, mseq, mhide⟩) = S := ⟨_, rfl⟩
                  rw [hS16] at drg
                  have HS : Hid (Mk.list ⟨msite, mseq, mhide⟩ = (S16 ++ [Value.int .u64 mseq]) ++ [Value.bool mhide]) := by rw [← hS16]; rfl
                  have hSl : S16.length = 16 := by rw [← hS16]; simp
                  have Hi22 : Hid ((Try.prog.info? 22).map (·.size) = some S16.length) := by rw [hSl]; exact Try.size22
                  have Hb1 : Hid (Try.prog.built 30 [(0, .agg S16.toArray), (1, .int .u64 mseq)] = some (S16 ++ [Value.int .u64 mseq]).toArray) := built30 hSl mseq
                  have hSl2 : (S16 ++ [Value.int .u64 mseq]).length = 17 := by simp [hSl]
                  obtain ⟨S17, hS17⟩ : ∃ S, S16 ++ [Value.int .u64 mseq] = S := ⟨_, rfl⟩
                  rw [hS17] at HS Hb1 hSl2
                  have Hb2 : Hid (Try.prog.built 114 [(0, .agg S17.toArray), (1, .bool mhide)] = some (S17 ++ [Value.bool mhide]).toArray) := built114 hSl2 mhide
                  obtain ⟨S18, hS18⟩ : ∃ S, S17 ++ [Value.bool mhide] = S := ⟨_, rfl⟩
                  rw [hS18] at HS Hb2
                  have Hrg : Hid (wr.rangeAt bm (om + j * 18) S16) := drg
                  clear df hS16 hSl hSl2 hS17 hS18
                  have hP' : Hid (Part wr wc.heap.size 114 (mn * 18) (j * 18) (mks (M k))) := hP
                  obtain ⟨F, q0, r0⟩ := hP
                  have Hth : Hid (wr.there wc.heap.size (j * 18) 18) := rowIs_there q0 (by omega)
                  clear q0 r0 drg
                  have hn1 : bm ≠ wc.heap.size := by omega
                  have hn2 : bx ≠ wc.heap.size := by omega
                  have hjz : (j : Int) < (mn : Int) := by omega
                  go_wp2
                  refine wp_region_last (by kernel_rfl) rfl (by kernel_rfl) ?_
                  dsimp only [initL, lastL]
                  iterate 7 (go_big_quiet_step (fail))
                  go_big_quiet_want
                  refine quiet_load_mid 22 (.tmp 69) rfl bm (om + j * 18) rfl S16 _ Hrg Try.underlying22 rfl Hi22 ?_
                  go_simp
                  go_big_quiet_on
                  iterate 6 (go_big_quiet_step (fail))
                  go_big_quiet_want
                  refine quiet_build 30 [(0, .tmp 70), (1, .tmp 76)] rfl _ rfl _ Hb1 ?_
                  go_simp
                  go_big_quiet_on
                  iterate 6 (go_big_quiet_step (fail))
                  go_big_quiet_want
                  refine quiet_build 114 [(0, .tmp 77), (1, .tmp 83)] rfl _ rfl _ Hb2 ?_
                  go_simp
                  go_big_quiet_on
                  iterate 1 (go_big_quiet_step (fail))
                  refine wpQuiet_nil ?_
                  intro wz hz
                  obtain ⟨nq, rfl⟩ := hz
                  have hPn : Part ((wr.drewN nq).setCells wc.heap.size (j * 18) (M k j).list) wc.heap.size 114 (mn * 18) ((j + 1) * 18) (mks (M k)) := Part.mark (w := wr.drewN nq) hP' _ rfl
                  have hBn : Below wc.heap.size wc ((wr.drewN nq).setCells wc.heap.size (j * 18) (M k j).list) := setCells_below (Nat.le_refl _) _ (below_drewN hBx nq)
                  rw [show M k j = ⟨msite, mseq, mhide⟩ from Hm] at hPn hBn
                  rw [HS] at hPn hBn
                  have hl18 : S18.length = 18 := by rw [← show Mk.list ⟨msite, mseq, mhide⟩ = S18 from HS]; exact Mk.list_length _
                  have h1c : ∀ v ∈ S18, v.oneCell' = true := by rw [← show Mk.list ⟨msite, mseq, mhide⟩ = S18 from HS]; exact Mk.list_one _
                  obtain ⟨Wn, hWn⟩ : ∃ W, (wr.drewN nq).setCells wc.heap.size (j * 18) S18 = W := ⟨_, rfl⟩
                  rw [hWn] at hPn hBn
                  refine wpList_store_to rfl 114 (.tmp 85) (.tmp 84) rfl wc.heap.size (j * 18) S18 Wn hWn rfl rfl (by rw [hl18]; exact Hth) (by rw [hl18]; exact Try.size114') h1c ?_
                  clear hWn hl18 h1c
                  have HPn : Hid (Part Wn wc.heap.size 114 (mn * 18) ((j + 1) * 18) (mks (M k))) := hPn
                  clear hPn
                  refine wpList_nil ?_
                  go_wp2
                  go_roundg (mn - (j + 1))
                  case measure => go_light; omega
                  case rel =>
                    go_light
                    exact ⟨j + 1, by omega, rfl, by go_num, HPn, hBn⟩
                · obtain rfl : mn = j := by omega
                  go_wp2
                  go_meet
                  exact ⟨some ⟨wc.heap.size, 0, none⟩, rfl, by simp, Part.row hP (by omega), hBx⟩
        case rest =>
          obtain ⟨ma', rfl, hmn, hM3, hB3⟩ := hcut
          clear hneq c21' hM2
          have hbox3 := hbox2.of_block (hB3.block bx hs3)
          have hT3 := hT2.below (Nat.le_refl _) hB3
          have hB4 := Below.next (Below.next hB1 hB2) hB3
          have hwr := hB4.size
          have hwx : w.heap.size < bx := by omega
          have hs4 : bx < wc.heap.size := Nat.lt_of_lt_of_le hs3 hB3.size
          clear hbox hbox2 c21 hM1 hT2 hB1 hB2 hB3 hs2 hs3
          have hH4 := hH.below hgl hB4
          have hB5 := Below.next hB hB4
          clear hH hB hB4
          go_wp2
          go_loopg [11] 2 (fun q s11 wx => ∃ j : Nat, j ≤ 2 ∧ q = 2 - j ∧ s11 = .int .i64 j ∧ Part wx wc.heap.size 75 6 (j * 3) (plv pl) ∧ Below wc.heap.size wc wx)
          case atStart => exact ⟨0, by omega, rfl, rfl, ⟨_, rowIs_new wc 75 _, fun i hi => by omega⟩, (Below.refl _ _).alloc (Nat.le_refl _) _⟩
          case round =>
            obtain ⟨j, hj0, rfl, rfl, hP, hBx⟩ := hrel
            have hbox4 := hbox3.of_block (hBx.block bx hs4)
            by_cases hj : j < 2
            · as_aux_lemma =>
                have dd : ∀ c, c < 3 → wr.cell? ⟨bx, 23 + j * 3 + c, none⟩ = some (.int .i32 (pl (j * 3 + c))) := fun c h3 => by
                  rw [show 23 + j * 3 + c = 23 + (j * 3 + c) by omega]
                  exact (hbox4.cell (by omega)).trans (by rw [pl_cell _ hj h3])
                have d0 : wr.cell? ⟨bx, 23 + j * 3, none⟩ = some (.int .i32 (pl (j * 3))) := dd 0 (by omega)
                have d1 : wr.cell? ⟨bx, 23 + j * 3 + 1, none⟩ = some (.int .i32 (pl (j * 3 + 1))) := dd 1 (by omega)
                have d2 : wr.cell? ⟨bx, 23 + j * 3 + 2, none⟩ = some (.int .i32 (pl (j * 3 + 2))) := dd 2 (by omega)
                have Hb : Hid (Try.prog.built 73 [(0, .int .i32 (pl (j * 3))), (1, .int .i32 (pl (j * 3 + 1))), (2, .int .i32 (pl (j * 3 + 2)))] = some [Value.int .i32 (pl (j * 3)), .int .i32 (pl (j * 3 + 1)), .int .i32 (pl (j * 3 + 2))].toArray) := built73 _ _ _
                have hP' : Hid (Part wr wc.heap.size 75 6 (j * 3) (plv pl)) := hP
                have Hth : Hid (wr.there wc.heap.size (j * 3) 3) := by obtain ⟨F, q0, _⟩ := hP; exact rowIs_there q0 (by omega)
                have hjz : (j : Int) < 2 := by omega
                clear dd hP hbox4 hbox3 hH4 hB5 hT3 hM3
                go_wp2
                refine wp_region_last (by kernel_rfl) rfl (by kernel_rfl) ?_
                dsimp only [initL, lastL]
                iterate 16 (go_big_quiet_step (fail))
                go_big_quiet_want
                refine quiet_build 73 [(0, .tmp 95), (1, .tmp 100), (2, .tmp 105)] rfl _ rfl _ Hb ?_
                go_simp
                go_big_quiet_on
                iterate 1 (go_big_quiet_step (fail))
                refine wpQuiet_nil ?_
                intro wz hz
                obtain ⟨nq, rfl⟩ := hz
                have hPn : Part ((wr.drewN nq).setCells wc.heap.size (j * 3) [plv pl (j * 3), plv pl (j * 3 + 1), plv pl (j * 3 + 2)]) wc.heap.size 75 6 ((j + 1) * 3) (plv pl) := Part.three (w := wr.drewN nq) hP' _ rfl
                have hBn : Below wc.heap.size wc ((wr.drewN nq).setCells wc.heap.size (j * 3) [plv pl (j * 3), plv pl (j * 3 + 1), plv pl (j * 3 + 2)]) := setCells_below (Nat.le_refl _) _ (below_drewN hBx nq)
                obtain ⟨Wn, hWn⟩ : ∃ W, (wr.drewN nq).setCells wc.heap.size (j * 3) [plv pl (j * 3), plv pl (j * 3 + 1), plv pl (j * 3 + 2)] = W := ⟨_, rfl⟩
                rw [hWn] at hPn hBn
                refine wpList_store_to rfl 73 (.tmp 107) (.tmp 106) rfl wc.heap.size (j * 3) _ Wn hWn rfl rfl Hth Try.size73 (by simp [plv, Value.oneCell']) ?_
                clear hWn
                have HPn : Hid (Part Wn wc.heap.size 75 6 ((j + 1) * 3) (plv pl)) := hPn
                clear hPn
                refine wpList_nil ?_
                go_wp2
                go_roundg (2 - (j + 1))
                case measure => go_light; omega
                case rel =>
                  go_light
                  exact ⟨j + 1, by omega, rfl, by go_num, HPn, hBn⟩
            · as_aux_lemma =>
                have hPf : Part wr wc.heap.size 75 6 6 (plv pl) := by
                  obtain rfl : j = 2 := by omega
                  exact hP
                have HU : Hid (wr.rangeAt wc.heap.size 0 (plist pl)) := hPf.range
                have bb : ∀ f, f < 31 → wr.cell? ⟨bx, 0 + f, none⟩ = some (Pc.cell ⟨site, seq, kk, ta, tn, tc, clock, del, ma, mn, mc, next, pl, pri, size⟩ f) := fun f hf => by rw [Nat.zero_add]; exact hbox4.cell (by omega)
                have c16 : wr.cell? ⟨bx, 16, none⟩ = some (.int .u64 seq) := hbox4.cell (by omega)
                have c17 : wr.cell? ⟨bx, 17, none⟩ = some (.int .i64 kk) := hbox4.cell (by omega)
                have c19 : wr.cell? ⟨bx, 19, none⟩ = some (.int .u64 clock) := hbox4.cell (by omega)
                have c20 : wr.cell? ⟨bx, 20, none⟩ = some (.bool del) := hbox4.cell (by omega)
                have c22 : wr.cell? ⟨bx, 22, none⟩ = some (.int .i32 next) := hbox4.cell (by omega)
                have c29 : wr.cell? ⟨bx, 29, none⟩ = some (.int .u64 pri) := hbox4.cell (by omega)
                have c30 : wr.cell? ⟨bx, 30, none⟩ = some (.int .i64 size) := hbox4.cell (by omega)
                have drg := Pc.range16 bb
                obtain ⟨y, hy⟩ : ∃ y : Pc, y = ⟨site, seq, kk, ta', tn, tn, clock, del, ma', mn, mn, next, pl, pri, size⟩ := ⟨_, rfl⟩
                have hyl : y.list = (Pc.site16 ⟨site, seq, kk, ta, tn, tc, clock, del, ma, mn, mc, next, pl, pri, size⟩ ++ [Value.int .u64 seq]) ++ [Value.int .i64 kk, .slice ta' tn tn, .int .u64 clock, .bool del, .slice ma' mn mn, .int .i32 next] ++ plist pl ++ [Value.int .u64 pri, Value.int .i64 size] := by subst hy; rfl
                have hsl := Pc.site16_length ⟨site, seq, kk, ta, tn, tc, clock, del, ma, mn, mc, next, pl, pri, size⟩
                generalize Pc.site16 ⟨site, seq, kk, ta, tn, tc, clock, del, ma, mn, mc, next, pl, pri, size⟩ = S16 at drg hyl hsl
                have hB1 := built30 hsl seq
                have hs17 : (S16 ++ [Value.int .u64 seq]).length = 17 := by simp [hsl]
                have Hi22 : Hid ((Try.prog.info? 22).map (·.size) = some S16.length) := by rw [hsl]; exact Try.size22
                generalize S16 ++ [Value.int .u64 seq] = S17 at hyl hB1 hs17
                have hB2 := built77 hs17 (plist_length pl) kk ta' tn tn clock del ma' mn mn next pri size
                rw [← hyl] at hB2
                have hul : (plist pl).length = 6 := plist_length pl
                generalize plist pl = U at HU hB2 hul
                have Hi75 : Hid ((Try.prog.info? 75).map (·.size) = some U.length) := by rw [hul]; exact Try.size75
                have Hrg : Hid (wr.rangeAt bx 0 S16) := drg
                have HB1 : Hid (Try.prog.built 30 [(0, .agg S16.toArray), (1, .int .u64 seq)] = some S17.toArray) := hB1
                have HB2 : Hid (Try.prog.built 77 [(0, .agg S17.toArray), (1, .int .i64 kk), (2, .slice ta' tn tn), (3, .int .u64 clock), (4, .bool del), (5, .slice ma' mn mn), (6, .int .i32 next), (7, .agg U.toArray), (8, .int .u64 pri), (9, .int .i64 size)] = some y.list.toArray) := hB2
                have hal : Alike (X k) y := by
                  rw [show X k = ⟨site, seq, kk, ta, tn, tc, clock, del, ma, mn, mc, next, pl, pri, size⟩ from Hx]
                  subst hy
                  exact ⟨fun _ _ => rfl, rfl, rfl, rfl, htn, rfl, rfl, rfl, hmn, rfl, fun _ _ => rfl, rfl, rfl⟩
                have hw0 : w.heap.size < wc.heap.size := Nat.lt_of_lt_of_le hgl hwr
                have hT5 : RowN wr w.heap.size y.ta y.tn (fun j => .int .i32 (T k j)) := by subst hy; exact RowN.of_row (hT3.below (Nat.le_refl _) hBx) (by omega)
                have hM5 : RowN wr w.heap.size y.ma (y.mn * 18) (mks (M k)) := by subst hy; exact RowN.of_row (hM3.below (Nat.le_refl _) hBx) (by omega)
                have hH5 := hH4.below hw0 hBx
                have hth : wr.there w.heap.size (k * 31) y.list.length := by
                  obtain ⟨F, h1, _⟩ := hH5.row
                  rw [Pc.list_length]
                  exact rowIs_there h1 (by omega)
                have Hth : Hid _ := hth
                have hHn := hH5.step y hal hT5 hM5 y.list rfl
                have hBn : Below w.heap.size w (wr.setCells w.heap.size (k * 31) y.list) := setCells_below (Nat.le_refl _) _ (Below.next hB5 hBx)
                obtain ⟨Wn, hWn⟩ : ∃ W, wr.setCells w.heap.size (k * 31) y.list = W := ⟨_, rfl⟩
                rw [hWn] at hHn hBn
                have HWn : Hid _ := hWn
                have HHn : Hid _ := hHn
                have HBn : Hid _ := hBn
                have Hi77 : Hid ((Try.prog.info? 77).map (·.size) = some y.list.length) := by rw [Pc.list_length]; exact Try.size77'
                clear hHn hBn hWn hth hH5 hT5 hM5 hal hB1 hB2 hul hs17 drg hsl hyl hy bb hPf hP hbox4 hbox3 hH4 hB5 hT3 hM3
                go_upto_region 27 with fail
                refine wp_region_plain_last ?_
                dsimp only [initL, lastL]
                iterate 3 (go_big_quiet_step (fail))
                go_big_quiet_want
                refine quiet_load_mid 22 (.tmp 110) rfl bx 0 rfl S16 _ Hrg Try.underlying22 rfl Hi22 ?_
                go_simp
                go_big_quiet_on
                iterate 2 (go_big_quiet_step (fail))
                go_big_quiet_want
                refine quiet_build 30 [(0, .tmp 111), (1, .tmp 113)] rfl _ rfl _ HB1 ?_
                go_simp
                go_big_quiet_on
                iterate 10 (go_big_quiet_step (fail))
                go_big_quiet_want
                refine quiet_load_mid 75 (.tmp 10) rfl wc.heap.size 0 rfl U _ HU Try.underlying75 rfl Hi75 ?_
                go_simp
                go_big_quiet_on
                iterate 4 (go_big_quiet_step (fail))
                go_big_quiet_want
                refine quiet_build 77 [(0, .tmp 114), (1, .tmp 116), (2, .tmp 117), (3, .tmp 119), (4, .tmp 121), (5, .tmp 122), (6, .tmp 124), (7, .tmp 125), (8, .tmp 127), (9, .tmp 129)] rfl _ rfl _ HB2 ?_
                go_simp
                go_big_quiet_on
                iterate 1 (go_big_quiet_step (fail))
                refine wpQuiet_nil ?_
                intro wz hz
                obtain ⟨nq, rfl⟩ := hz
                refine wpList_store_to rfl 77 (.tmp 131) (.tmp 130) rfl w.heap.size (k * 31) y.list (Wn.drewN nq) (by rw [← show wr.setCells w.heap.size (k * 31) y.list = Wn from HWn]; exact setCells_drewN _) rfl rfl Hth Hi77 y.list_one ?_
                refine wpList_nil ?_
                go_wp2
                go_roundg (n - (k + 1))
                case measure => go_light; omega
                case rel =>
                  go_light
                  exact ⟨k + 1, _, by omega, rfl, by go_num, Half.drewN HHn nq, below_drewN HBn nq⟩
    · as_aux_lemma =>
        obtain rfl : n = k := by omega
        go_wp2
        go_ret
        exact ⟨hB, .inr ⟨_, Y, by simp, rfl, Nat.le_refl _, hH.full, hH.alike⟩⟩
end Go.Proofs.Qxb6601797a
