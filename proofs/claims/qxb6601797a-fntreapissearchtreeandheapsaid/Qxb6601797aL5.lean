/- Walk: the law FnTreapIsSearchTreeAndHeap. -/
import Derived.Test.Qxb6601797aChain
namespace Go.Proofs.Qxb6601797a
open Go.RowKit Go.Maps

set_option maxHeartbeats 4000000 in
set_option maxRecDepth 100000 in
theorem law5_any (a0 : Addr) (an : Option Addr) (n c nn cn : Nat) (t : Int) (X : Nat → Pc) (T : Nat → Nat → Int) (M : Nat → Nat → Mk) (N : Nat → Int) (w : World) (hn : n ≤ maxLen) (hnn : nn ≤ maxLen) (hX : ∀ i, i < n → (X i).tn ≤ maxLen ∧ (X i).mn ≤ maxLen)
    (hD : Data w 0 (some a0) n X T M) (hN : Row w 0 an nn (fun i => .int .i32 (N i))) (hNr : ∀ i, i < nn → -2147483648 ≤ N i ∧ N i ≤ 2147483647) :
    Calls Try.prog 5 #[.slice (some a0) n c, .int .i64 t, .slice an nn cn] w fun e w' => RetTrue w e w' := by
  have hn' := hn
  have hnn' := hnn
  unfold maxLen at hn' hnn'
  go_enter Try.func5, Try.ntmps5
  go_wp2_with fail
  refine (bytes_any25 (some a0) an n c nn cn 0 _ X _ hn hnn hX hD.row).mono ?_
  rintro e w1 ⟨x, rfl, rfl⟩
  by_cases hx : x = true
  case neg =>
    as_aux_lemma =>
      obtain rfl : x = false := by simpa using hx
      go_wp2
      go_ret
      exact ⟨rfl, Below.refl _ _⟩
  subst hx
  by_cases h1 : n ≤ 65536
  case neg =>
    as_aux_lemma =>
      go_wp2
      go_ret
      exact ⟨rfl, Below.refl _ _⟩
  by_cases h2 : nn ≤ 65536
  case neg =>
    as_aux_lemma =>
      go_wp2
      go_ret
      exact ⟨rfl, Below.refl _ _⟩
  go_wp2_with fail
  refine (piecesBytes_any (some a0) n c 0 X _ h1 hX hD.row).mono ?_
  rintro e w1 ⟨B, rfl, hB0, hB1, hB2, hBel⟩
  by_cases h3 : B + 4 * (nn : Int) ≤ 1048576
  case neg =>
    as_aux_lemma =>
      clear hB2
      go_wp2
      go_ret
      exact ⟨rfl, hBel⟩
  obtain ⟨h128, hsz⟩ := hB2 (by omega)
  have hn8 : n ≤ 8192 := by omega
  have hD1 := hD.below (Nat.le_refl _) hBel
  have hN1 := hN.below (Nat.le_refl _) hBel
  clear hB2 hD hN hX h128
  have Hsz : Hid (∀ i, i < n → (X i).tn ≤ 1048576 ∧ (X i).mn ≤ 1048576) := hsz
  have HNr : Hid (∀ i, i < nn → -2147483648 ≤ N i ∧ N i ≤ 2147483647) := hNr
  clear hsz hNr
  have hneq := fun w => run_neq_slice_nil (P := Try.prog) w 52 21 an nn cn Try.underlying52
  go_upto_if 43 with fail
  go_cut [2] (fun s2 wx => ∃ a2 c2, s2 = .slice a2 nn c2 ∧ Row wx w1.heap.size a2 nn (fun i => .int .i32 (N i)) ∧ Below w1.heap.size w1 wx)
  case first =>
    cases an with
    | none =>
      as_aux_lemma =>
        obtain rfl : nn = 0 := hN1.nil rfl
        go_wp2_with fail
        go_meet
        exact ⟨none, _, rfl, Row.zero _ _ _ _, Below.refl _ _⟩
    | some an0 =>
      as_aux_lemma =>
        have hcp := run_copy_fresh (P := Try.prog) w1 52 21 3 (.int .i32 0) (fun i => .int .i32 (N i)) an0 nn cn Try.underlying52 (by kernel_rfl) 0 hN1 (fun i => rfl)
        have hmk := run_make_row' (P := Try.prog) 52 21 (.int .i32 0) 4 Try.underlying52 Try.info21 rfl .i64 .i64 nn (by omega) (by omega)
        go_wp2
        go_meet
        exact ⟨_, _, rfl, Row.of_rowIs (rowIs_fresh w1 nn 21 _) (Nat.le_refl _), (Below.refl _ _).alloc (Nat.le_refl _) _⟩
  case rest =>
    obtain ⟨a2, c2, rfl, hN2, hBc⟩ := hcut
    clear hneq hN1
    have hD2 := hD1.below (Nat.le_refl _) hBc
    have hBel2 := Below.next hBel hBc
    clear hD1 hBel hBc
    go_wp2_with fail
    refine (prem_any (some a0) a2 n c nn c2 0 t X N _ h1 h2 hD2.row (hN2.mono (Nat.zero_le _)) HNr).mono ?_
    rintro e w2 ⟨hBp, hpost⟩
    have hD3 := hD2.below (Nat.le_refl _) hBp
    have hN3 := hN2.below (Nat.le_refl _) hBp
    have hBel3 := Below.next hBel2 hBp
    have hwc := hBp.size
    clear hD2 hN2 hBel2 hBp
    rcases hpost with ⟨v, rfl⟩ | ⟨sa, τ, rfl, hτ, rfl, hPrem, hSeen⟩
    · as_aux_lemma =>
        go_wp2
        go_ret
        exact ⟨rfl, hBel3⟩
    · have HPrem : Hid (Prem n nn τ X N) := hPrem
      clear hPrem
      have hgs : w2.heap.size ≤ w2.heap.size := Nat.le_refl _
      go_wp2_with fail
      refine (zp_any a0 n c X T M _ h1 Hsz hD3).mono ?_
      rintro e w3 ⟨hB3, hp3⟩
      rcases hp3 with ⟨h, _⟩ | ⟨g1, X1, _, rfl, hg1, hP1, hA1⟩
      case inl => cases h
      have hD4 := hD3.below (Nat.le_refl _) hB3
      have hN4 := hN3.below (Nat.le_refl _) hB3
      have hS4 := hSeen.below (Nat.le_refl _) hB3
      have hBel4 := Below.next hBel3 hB3
      clear hD3 hN3 hSeen hBel3 hB3
      have hsz1 : ∀ i, i < n → (X1 i).tn ≤ 1048576 ∧ (X1 i).mn ≤ 1048576 := fun i hi => (hA1 i hi).sizes (Hsz i hi)
      go_wp2_with fail
      refine (mp_any g1 n n X1 T M _ h1 hsz1 hP1).mono ?_
      rintro e w4 ⟨hB4, hp4⟩
      rcases hp4 with ⟨h, _⟩ | ⟨g2, X2, _, rfl, hg2, hP2, hA2⟩
      case inl => cases h
      have hsz2 : ∀ i, i < n → (X2 i).tn ≤ 1048576 ∧ (X2 i).mn ≤ 1048576 := fun i hi => (hA2 i hi).sizes (hsz1 i hi)
      have hD5 := hD4.below (Nat.le_refl _) hB4
      have hN5 : RowN w4 g2 a2 nn (fun i => .int .i32 (nu N i : Int)) := by
        refine (RowN.of_old ?_ hg2).below (Nat.le_refl _) hB4
        exact (hN4.mono (Nat.zero_le _)).congr fun i hi => by rw [nu_eq HPrem hi]
      have hS5 : RowN w4 g2 sa n (fun i => .bool (sn N nn i)) := (RowN.of_old (hS4.mono (Nat.zero_le _)) hg2).below (Nat.le_refl _) hB4
      have hDr : RowN w4 g2 (some a0) (n * 31) (pcs X) := (RowN.of_old hD4.row hg2).below (Nat.le_refl _) hB4
      have hDT : ∀ i, i < n → RowN w4 g2 (X i).ta (X i).tn (fun j => .int .i32 (T i j)) := fun i hi => (RowN.of_old (hD4.text i hi) hg2).below (Nat.le_refl _) hB4
      have hDM : ∀ i, i < n → RowN w4 g2 (X i).ma ((X i).mn * 18) (mks (M i)) := fun i hi => (RowN.of_old (hD4.mark i hi) hg2).below (Nat.le_refl _) hB4
      have hBel5 := Below.next hBel4 hB4
      have hg2w : w.heap.size ≤ g2 := Nat.le_trans hBel4.size hg2
      clear hD4 hN4 hS4 hBel4 hB4 hP1 hsz1 hD5 hg2 hg1
      go_wp2_with fail
      refine (zt_any g2 n n a2 nn c2 τ X2 (nu N) _ h1 h2 hτ hP2.row hN5 (nu_pos HPrem) (nu_lt HPrem) (nu_inj HPrem) (zero_on HPrem hτ hA1 hA2)).mono ?_
      rintro e w5 ⟨G, r, rfl, hFr, hrow, hCT, hrest⟩
      have hP5 := hP2.treap hFr hrow
      have hN6 := (hN5.keep hFr.keep).row
      have hS6 := (hS5.keep hFr.keep).row
      have hD6 := (hDr.keep hFr.keep).row
      have hDT6 := fun i hi => ((hDT i hi).keep hFr.keep).row
      have hDM6 := fun i hi => ((hDM i hi).keep hFr.keep).row
      have hBel6 : Below w.heap.size w w5 := hBel5.trans (hFr.below.mono hg2w)
      clear hP2 hrow hFr hN5 hS5 hDr hDT hDM hBel5
      have hCT' : CT (fun m => (X (nu N m)).pri) (nu N) G 0 nn 0 r := hCT.pri fun m hm => by
        have hl := nu_lt HPrem m hm
        show (X (nu N m)).pri = (X2 (nu N m)).pri
        rw [(hA2 _ hl).pri, (hA1 _ hl).pri]
      clear hCT
      go_wp2_with fail
      refine (rp_any g2 n n (setG X2 τ G) T M _ h1 (fun i hi => setG_sizes (hsz2 i hi)) hP5).mono ?_
      rintro e w6 ⟨hB6, hp6⟩
      rcases hp6 with ⟨h, _⟩ | ⟨g3, X3, _, rfl, hg3, hP6, hA3⟩
      case inl => cases h
      have hN7 := hN6.below (Nat.le_refl _) hB6
      have hS7 := hS6.below (Nat.le_refl _) hB6
      have hD7 := hD6.below (Nat.le_refl _) hB6
      have hDT7 := fun i hi => (hDT6 i hi).below (Nat.le_refl _) hB6
      have hDM7 := fun i hi => (hDM6 i hi).below (Nat.le_refl _) hB6
      have hBf := Below.next hBel6 hB6
      clear hN6 hS6 hD6 hDT6 hDM6 hBel6 hB6 hP5 hsz2 hg3
      have hp6 : ∀ i, i < n → ∀ c, c < 3 → (X3 i).pl (τ * 3 + c) = G i c := fun i hi c hc => by rw [(hA3 i hi).pl _ (by omega), setG_pl X2 G i hc]
      have hG0 : ∀ i, i < n → ∀ c, c < 3 → w6.cell? ⟨g3, i * 31 + 23 + τ * 3 + c, none⟩ = some (.int .i32 (G i c)) := fun i hi c hc => by
        rw [show i * 31 + 23 + τ * 3 + c = i * 31 + (23 + (τ * 3 + c)) by omega]
        exact (hP6.row.cell (by omega)).trans (by rw [pcs_at X3 i _ (by omega), cell_pl _ (by omega), hp6 i hi c hc])
      have HG : Hid (∀ i, i < n → ∀ c, c < 3 → w6.cell? ⟨g3, i * 31 + 23 + τ * 3 + c, none⟩ = some (.int .i32 (G i c))) := hG0
      have hseen : ∀ m, m < nn → sn N nn (nu N m) = true := fun m hm => nu_seen HPrem hm
      have hps := nu_pos HPrem
      have hls := nu_lt HPrem
      have hij := nu_inj HPrem
      generalize nu N = ν at hCT' hN7 hseen hps hls hij
      obtain ⟨p, hpp⟩ : ∃ p : Nat → Int, (fun m => (X (ν m)).pri) = p := ⟨_, rfl⟩
      rw [hpp] at hCT'
      have hpe : ∀ m, (X (ν m)).pri = p m := fun m => by rw [← hpp]
      clear hpp hG0 hp6 hA3 hA1 hA2 hrest hDT7 hDM7 HPrem Hsz HNr hgs hwc hg2w hn hnn hn' hnn' hB0 hB1 h3
      by_cases hnz : nn = 0
      · as_aux_lemma =>
          subst hnz
          obtain rfl : r = 0 := by
            rcases hCT'.root' with ⟨h, _⟩ | ⟨m, _, h, _⟩
            · exact h
            · omega
          go_wp2
          go_ret
          exact ⟨rfl, hBf⟩
      · have hnp : 0 < nn := by omega
        have hn0 : 0 < n := by have := hls 0 hnp; omega
        obtain ⟨b, off, hab, hcD⟩ := hD7
        obtain ⟨b2, o2, hab2, hcN⟩ := hN7
        obtain ⟨bs, os, habs, hcS⟩ := hS7
        obtain ⟨e1, _⟩ := hab (by omega)
        obtain rfl := Option.some.inj e1
        obtain ⟨rfl, _⟩ := hab2 hnp
        obtain ⟨rfl, _⟩ := habs hn0
        have hbl : b < w6.heap.size := World.block_lt_of_cell? _ _ (hcD 0 (by omega))
        have hbl2 : b2 < w6.heap.size := World.block_lt_of_cell? _ _ (hcN 0 (by omega))
        have hbls : bs < w6.heap.size := World.block_lt_of_cell? _ _ (hcS 0 (by omega))
        have hgl : g3 < w6.heap.size := World.block_lt_of_cell? _ _ (HG 0 hn0 0 (by omega))
        have HX : Hid (∀ m, m < nn → w6.cell? ⟨b, off + ν m * 31 + 29, none⟩ = some (.int .u64 (p m))) := by
          show ∀ m, m < nn → w6.cell? ⟨b, off + ν m * 31 + 29, none⟩ = some (.int .u64 (p m))
          intro m hm
          have := Row.pc hcD (hls m hm) 29 (by omega)
          rw [this, ← hpe m]
          rfl
        have HN : Hid (∀ m, m < nn → w6.cell? ⟨b2, o2 + m, none⟩ = some (.int .i32 (ν m : Int))) := hcN
        have HS : Hid (∀ m, m < nn → w6.cell? ⟨bs, os + ν m, none⟩ = some (.bool true)) := by
          show ∀ m, m < nn → w6.cell? ⟨bs, os + ν m, none⟩ = some (.bool true)
          intro m hm
          refine (hcS _ (hls m hm)).trans ?_
          show some (Value.bool (sn N nn (ν m))) = _
          rw [hseen m hm]
        clear hcD hcN hcS hab hab2 habs hseen hpe hP6 e1
        have HCT : Hid (CT p ν G 0 nn 0 r) := hCT'
        have Hps : Hid (∀ m, m < nn → 0 < ν m) := hps
        have Hls : Hid (∀ m, m < nn → ν m < n) := hls
        have Hij : Hid (∀ a b, a < nn → b < nn → ν a = ν b → a = b) := hij
        clear hps hls hCT' hij
        obtain ⟨m0, hm0, hr0, hq0⟩ : ∃ m, m < nn ∧ r = (ν m : Int) ∧ G (ν m) 2 = 0 := by
          rcases (show CT p ν G 0 nn 0 r from HCT).root' with ⟨_, h⟩ | ⟨m, _, h, h', h''⟩
          · omega
          · exact ⟨m, h, h', h''⟩
        have f1 := HS m0 hm0
        have f2 := HG (ν m0) (Hls m0 hm0) 2 (by omega)
        rw [hq0] at f2
        have f3 := Hps m0 hm0
        have f4 := Hls m0 hm0
        have f5 : ((ν m0 : Nat) : Int) < (n : Int) := by omega
        have f6 : (0 : Int) < ((ν m0 : Nat) : Int) := by omega
        have hτz : (τ : Int) < 2 := by omega
        have Hr : Hid (r = (ν m0 : Int)) := hr0
        subst hr0
        clear hq0
        go_wp2
        clear f1 f2
        have hdn : decide (n ≤ ν m0) = false := decide_eq_false (by omega)
        rw [hdn]
        clear hdn
        go_loopg [13] nn (fun q s13 wr => ∃ i : Nat, i ≤ nn ∧ q = nn - i ∧ s13 = .int .i64 i ∧ Below w6.heap.size w6 wr)
        case atStart => exact ⟨0, Nat.zero_le _, rfl, rfl, Below.refl _ _⟩
        case round =>
          obtain ⟨i, hi0, rfl, rfl, hBr⟩ := hrel
          by_cases hlt : i < nn
          · as_aux_lemma =>
              obtain ⟨F1, F2, F3⟩ := (show CT p ν G 0 nn 0 (ν m0) from HCT).facts i (Nat.zero_le _) hlt
              have g1 : wr.cell? ⟨b2, o2 + i, none⟩ = some (.int .i32 (ν i : Int)) := (hBr.cell (p := ⟨b2, o2 + i, none⟩) hbl2).trans (HN i hlt)
              have i3 := Hps i hlt
              have i4 := Hls i hlt
              have i5 : ((ν i : Nat) : Int) < (n : Int) := by omega
              have i6 : (0 : Int) < ((ν i : Nat) : Int) := by omega
              have dd : ∀ c, c < 3 → wr.cell? ⟨g3, ν i * 31 + 23 + τ * 3 + c, none⟩ = some (.int .i32 (G (ν i) c)) := fun c hc => (hBr.cell (p := ⟨g3, ν i * 31 + 23 + τ * 3 + c, none⟩) hgl).trans (HG (ν i) i4 c hc)
              have d0 : wr.cell? ⟨g3, ν i * 31 + 23 + τ * 3, none⟩ = some (.int .i32 (G (ν i) 0)) := dd 0 (by omega)
              have d1 : wr.cell? ⟨g3, ν i * 31 + 23 + τ * 3 + 1, none⟩ = some (.int .i32 (G (ν i) 1)) := dd 1 (by omega)
              have d2 : wr.cell? ⟨g3, ν i * 31 + 23 + τ * 3 + 2, none⟩ = some (.int .i32 (G (ν i) 2)) := dd 2 (by omega)
              have hq : (G (ν i) 2 = 0 ∧ (ν i : Int) = (ν m0 : Int)) ∨ G (ν i) 2 ≠ 0 := by
                rcases F1 with h | ⟨j, _, hj, h⟩
                · exact .inl h
                · exact .inr (by rw [h]; have := Hps j hj; omega)
              have HF2 : Hid (Child p ν G 0 nn i (G (ν i) 0)) := F2
              have HF3 : Hid (Child p ν G 0 nn i (G (ν i) 1)) := F3
              clear F1 F2 F3 dd
              generalize hv0 : G (ν i) 0 = v0 at d0 HF2
              generalize hv1 : G (ν i) 1 = v1 at d1 HF3
              generalize hv2 : G (ν i) 2 = v2 at d2 hq
              clear hv0 hv1 hv2
              rename World => W1
              have hws := hBr.size
              go_upto_region 28 with fail
              refine gen_world (fun W' => W'.cell? ⟨W1.heap.size, 0, none⟩ = some (.int .i32 v0) ∧ W'.cell? ⟨W1.heap.size, 1, none⟩ = some (.int .i32 v1) ∧ W'.cell? ⟨W1.heap.size, 2, none⟩ = some (.int .i32 v2) ∧ Below w6.heap.size w6 W') ?_ ?_
              · refine ⟨by simp, by simp, by simp, ?_⟩
                first
                  | exact (hBr.alloc hws _)
                  | exact (((hBr.alloc hws _).setCell (p := ⟨W1.heap.size, 0, none⟩) hws _).setCell (p := ⟨W1.heap.size, 1, none⟩) hws _).setCell (p := ⟨W1.heap.size, 2, none⟩) hws _
              rintro W2 ⟨z0, z1, z2, hB2⟩
              clear g1 d0 d1 d2
              have hcond : v2 = 0 → (ν i : Int) = (ν m0 : Int) := fun h => by rcases hq with ⟨_, e⟩ | e; exact e; exact absurd h e
              by_cases hv2 : v2 = 0
              · have he := hcond hv2
                obtain rfl : i = m0 := Hij i m0 hlt hm0 (by omega)
                clear he
                subst hv2
                clear hcond hq
                go_wp2
                clear z2
                go_loopg [16] 2 (fun q s16 wx => Below w6.heap.size w6 wx ∧ wx.cell? ⟨W1.heap.size, 0, none⟩ = some (.int .i32 v0) ∧ wx.cell? ⟨W1.heap.size, 1, none⟩ = some (.int .i32 v1) ∧ ((q = 2 ∧ s16 = .int .i64 0) ∨ (q = 1 ∧ s16 = .int .i64 1) ∨ (q = 0 ∧ s16 = .int .i64 2)))
                case atStart => exact ⟨hB2, z0, z1, .inl ⟨rfl, rfl⟩⟩
                case round =>
                  clear z0 z1
                  obtain ⟨hB3, z0, z1, hcase⟩ := hrel
                  rcases hcase with ⟨rfl, rfl⟩ | ⟨rfl, rfl⟩ | ⟨rfl, rfl⟩
                  · rcases (show Child p ν G 0 nn i v0 from HF2) with rfl | ⟨j, _, hj, rfl, hjq, hjp⟩
                    · go_wp2
                      go_roundg 1
                      case measure => go_light; omega
                      case rel => go_light; exact ⟨hB3, z0, z1, .inr (.inl ⟨rfl, rfl⟩)⟩
                    · have j1 : wr.cell? ⟨bs, os + ν j, none⟩ = some (.bool true) := (hB3.cell (p := ⟨bs, os + ν j, none⟩) hbls).trans (HS j hj)
                      have j3 := Hps j hj
                      have j4 := Hls j hj
                      have j5 : ((ν j : Nat) : Int) < (n : Int) := by omega
                      have j6 : (0 : Int) < ((ν j : Nat) : Int) := by omega
                      have j2 : wr.cell? ⟨g3, ν j * 31 + 23 + τ * 3 + 2, none⟩ = some (.int .i32 (ν i : Int)) := by rw [← hjq]; exact (hB3.cell (p := ⟨g3, ν j * 31 + 23 + τ * 3 + 2, none⟩) hgl).trans (HG (ν j) j4 2 (by omega))
                      have j7 : wr.cell? ⟨b, off + ν j * 31 + 29, none⟩ = some (.int .u64 (p j)) := (hB3.cell (p := ⟨b, off + ν j * 31 + 29, none⟩) hbl).trans (HX j hj)
                      have j8 : wr.cell? ⟨b, off + ν i * 31 + 29, none⟩ = some (.int .u64 (p i)) := (hB3.cell (p := ⟨b, off + ν i * 31 + 29, none⟩) hbl).trans (HX i hlt)
                      clear hjq
                      go_wp2
                      go_quiet (fail)
                      go_wp2
                      go_roundg 1
                      case measure => go_light; omega
                      case rel => go_light; exact ⟨below_drewN hB3 _, z0, z1, .inr (.inl ⟨rfl, rfl⟩)⟩
                  · rcases (show Child p ν G 0 nn i v1 from HF3) with rfl | ⟨j, _, hj, rfl, hjq, hjp⟩
                    · go_wp2
                      go_roundg 0
                      case measure => go_light; omega
                      case rel => go_light; exact ⟨hB3, z0, z1, .inr (.inr ⟨rfl, rfl⟩)⟩
                    · have j1 : wr.cell? ⟨bs, os + ν j, none⟩ = some (.bool true) := (hB3.cell (p := ⟨bs, os + ν j, none⟩) hbls).trans (HS j hj)
                      have j3 := Hps j hj
                      have j4 := Hls j hj
                      have j5 : ((ν j : Nat) : Int) < (n : Int) := by omega
                      have j6 : (0 : Int) < ((ν j : Nat) : Int) := by omega
                      have j2 : wr.cell? ⟨g3, ν j * 31 + 23 + τ * 3 + 2, none⟩ = some (.int .i32 (ν i : Int)) := by rw [← hjq]; exact (hB3.cell (p := ⟨g3, ν j * 31 + 23 + τ * 3 + 2, none⟩) hgl).trans (HG (ν j) j4 2 (by omega))
                      have j7 : wr.cell? ⟨b, off + ν j * 31 + 29, none⟩ = some (.int .u64 (p j)) := (hB3.cell (p := ⟨b, off + ν j * 31 + 29, none⟩) hbl).trans (HX j hj)
                      have j8 : wr.cell? ⟨b, off + ν i * 31 + 29, none⟩ = some (.int .u64 (p i)) := (hB3.cell (p := ⟨b, off + ν i * 31 + 29, none⟩) hbl).trans (HX i hlt)
                      clear hjq
                      go_wp2
                      go_quiet (fail)
                      go_wp2
                      go_roundg 0
                      case measure => go_light; omega
                      case rel => go_light; exact ⟨below_drewN hB3 _, z0, z1, .inr (.inr ⟨rfl, rfl⟩)⟩
                  · go_wp2
                    go_roundg (nn - (i + 1))
                    case measure => go_light; omega
                    case rel => go_light; exact ⟨i + 1, by omega, rfl, by go_num, hB3⟩
              · clear hcond hq
                go_wp2
                clear z2
                go_loopg [16] 2 (fun q s16 wx => Below w6.heap.size w6 wx ∧ wx.cell? ⟨W1.heap.size, 0, none⟩ = some (.int .i32 v0) ∧ wx.cell? ⟨W1.heap.size, 1, none⟩ = some (.int .i32 v1) ∧ ((q = 2 ∧ s16 = .int .i64 0) ∨ (q = 1 ∧ s16 = .int .i64 1) ∨ (q = 0 ∧ s16 = .int .i64 2)))
                case atStart => exact ⟨hB2, z0, z1, .inl ⟨rfl, rfl⟩⟩
                case round =>
                  clear z0 z1
                  obtain ⟨hB3, z0, z1, hcase⟩ := hrel
                  rcases hcase with ⟨rfl, rfl⟩ | ⟨rfl, rfl⟩ | ⟨rfl, rfl⟩
                  · rcases (show Child p ν G 0 nn i v0 from HF2) with rfl | ⟨j, _, hj, rfl, hjq, hjp⟩
                    · go_wp2
                      go_roundg 1
                      case measure => go_light; omega
                      case rel => go_light; exact ⟨hB3, z0, z1, .inr (.inl ⟨rfl, rfl⟩)⟩
                    · have j1 : wr.cell? ⟨bs, os + ν j, none⟩ = some (.bool true) := (hB3.cell (p := ⟨bs, os + ν j, none⟩) hbls).trans (HS j hj)
                      have j3 := Hps j hj
                      have j4 := Hls j hj
                      have j5 : ((ν j : Nat) : Int) < (n : Int) := by omega
                      have j6 : (0 : Int) < ((ν j : Nat) : Int) := by omega
                      have j2 : wr.cell? ⟨g3, ν j * 31 + 23 + τ * 3 + 2, none⟩ = some (.int .i32 (ν i : Int)) := by rw [← hjq]; exact (hB3.cell (p := ⟨g3, ν j * 31 + 23 + τ * 3 + 2, none⟩) hgl).trans (HG (ν j) j4 2 (by omega))
                      have j7 : wr.cell? ⟨b, off + ν j * 31 + 29, none⟩ = some (.int .u64 (p j)) := (hB3.cell (p := ⟨b, off + ν j * 31 + 29, none⟩) hbl).trans (HX j hj)
                      have j8 : wr.cell? ⟨b, off + ν i * 31 + 29, none⟩ = some (.int .u64 (p i)) := (hB3.cell (p := ⟨b, off + ν i * 31 + 29, none⟩) hbl).trans (HX i hlt)
                      clear hjq
                      go_wp2
                      go_quiet (fail)
                      go_wp2
                      go_roundg 1
                      case measure => go_light; omega
                      case rel => go_light; exact ⟨below_drewN hB3 _, z0, z1, .inr (.inl ⟨rfl, rfl⟩)⟩
                  · rcases (show Child p ν G 0 nn i v1 from HF3) with rfl | ⟨j, _, hj, rfl, hjq, hjp⟩
                    · go_wp2
                      go_roundg 0
                      case measure => go_light; omega
                      case rel => go_light; exact ⟨hB3, z0, z1, .inr (.inr ⟨rfl, rfl⟩)⟩
                    · have j1 : wr.cell? ⟨bs, os + ν j, none⟩ = some (.bool true) := (hB3.cell (p := ⟨bs, os + ν j, none⟩) hbls).trans (HS j hj)
                      have j3 := Hps j hj
                      have j4 := Hls j hj
                      have j5 : ((ν j : Nat) : Int) < (n : Int) := by omega
                      have j6 : (0 : Int) < ((ν j : Nat) : Int) := by omega
                      have j2 : wr.cell? ⟨g3, ν j * 31 + 23 + τ * 3 + 2, none⟩ = some (.int .i32 (ν i : Int)) := by rw [← hjq]; exact (hB3.cell (p := ⟨g3, ν j * 31 + 23 + τ * 3 + 2, none⟩) hgl).trans (HG (ν j) j4 2 (by omega))
                      have j7 : wr.cell? ⟨b, off + ν j * 31 + 29, none⟩ = some (.int .u64 (p j)) := (hB3.cell (p := ⟨b, off + ν j * 31 + 29, none⟩) hbl).trans (HX j hj)
                      have j8 : wr.cell? ⟨b, off + ν i * 31 + 29, none⟩ = some (.int .u64 (p i)) := (hB3.cell (p := ⟨b, off + ν i * 31 + 29, none⟩) hbl).trans (HX i hlt)
                      clear hjq
                      go_wp2
                      go_quiet (fail)
                      go_wp2
                      go_roundg 0
                      case measure => go_light; omega
                      case rel => go_light; exact ⟨below_drewN hB3 _, z0, z1, .inr (.inr ⟨rfl, rfl⟩)⟩
                  · go_wp2
                    go_roundg (nn - (i + 1))
                    case measure => go_light; omega
                    case rel => go_light; exact ⟨i + 1, by omega, rfl, by go_num, hB3⟩
          · as_aux_lemma =>
              obtain rfl : nn = i := by omega
              obtain ⟨i0, hi, hz0, hz1, hz2⟩ := info_parts Try.info21'
              obtain ⟨wm, hrun, hown, hgrow⟩ := run_make_own (P := Try.prog) wr wr.heap.size 52 21 i0 (.int .i32 0) 1 Try.underlying52 hi hz0 hz1 .i64 .i64 nn (by rw [hz2]; omega) (by unfold maxLen; omega) (Nat.le_refl _)
              have hBm : Below w6.heap.size w6 wm := hBr.grown hgrow hBr.size (fun k hk => by cases hk)
              have hwb := hBr.size
              have hwm := hgrow.size
              have HT0 : Hid (Trav p ν G nn 0 [] (ν m0 : Int)) := Trav.start HCT
              go_wp2
              clear hrun
              go_loopg [18, 19, 20, 21] (2 * nn + 1) (fun q s18 s19 s20 s21 wx => ∃ (k : Nat) (st : List Nat) (cur : Int), s19 = .int .i32 cur ∧ s20 = .int .i64 k ∧ s21 = .int .i64 ((2 * k + st.length : Nat) : Int) ∧ q = 2 * nn + 1 - (2 * k + st.length) ∧ wx.ownsRow wr.heap.size 21 1 s18 st.length (stv ν st) ∧ wr.heap.size ≤ wx.heap.size ∧ Below w6.heap.size w6 wx ∧ Trav p ν G nn k st cur)
              case atStart => exact ⟨0, [], _, rfl, rfl, rfl, rfl, hown, hwm, hBm, HT0⟩
              case round =>
                clear hown hBm
                rename World => W3
                obtain ⟨k, st, cur, rfl, rfl, rfl, rfl, hO, hwx, hBx, hT⟩ := hrel
                have hbd := hT.bound
                have hstz : ((2 * k + st.length : Nat) : Int) = 2 * (k : Int) + (st.length : Int) := by omega
                rw [hstz]
                by_cases hc0 : cur = 0
                · subst hc0
                  cases st with
                  | nil =>
                    as_aux_lemma =>
                      obtain rfl : k = nn := hT.fin Hps
                      obtain ⟨ea, ec, rfl⟩ := owns_zero hO
                      clear hT hO
                      simp only [List.length_nil]
                      go_wp2
                      go_ret
                      exact ⟨rfl, hBf.trans (hBx.mono hBf.size)⟩
                  | cons e st =>
                    as_aux_lemma =>
                      obtain ⟨rfl, hk, hT2⟩ := hT.up Hps
                      have HT2 : Hid (Trav p ν G nn (e + 1) st (G (ν e) 1)) := hT2
                      clear hT hT2
                      obtain ⟨ge, cap, rfl, hge, hgel, hcap, hcells⟩ := owns_some hO
                      have HO2 : Hid (W3.ownsRow wr.heap.size 21 1 (.slice (some ⟨ge, 0, none⟩) st.length cap) st.length (stv ν st)) := ownsRow_pop (last := [Value.int .i32 (ν e : Int)]) (by rw [stv_length]; omega) (by rw [← stv_cons]; exact hO)
                      have ye : W3.cell? ⟨ge, st.length, none⟩ = some (.int .i32 (ν e : Int)) := (hcells _ (by omega)).trans (stv_top ν e st)
                      have yn : W3.cell? ⟨b2, o2 + e, none⟩ = some (.int .i32 (ν e : Int)) := (hBx.cell (p := ⟨b2, o2 + e, none⟩) hbl2).trans (HN e hk)
                      have j3 := Hps e hk
                      have j4 := Hls e hk
                      have j5 : ((ν e : Nat) : Int) < (n : Int) := by omega
                      have yg : W3.cell? ⟨g3, ν e * 31 + 23 + τ * 3 + 1, none⟩ = some (.int .i32 (G (ν e) 1)) := (hBx.cell (p := ⟨g3, ν e * 31 + 23 + τ * 3 + 1, none⟩) hgl).trans (HG (ν e) j4 1 (by omega))
                      simp only [List.length_cons] at hbd ⊢
                      have hsl : st.length ≤ 65536 := by omega
                      clear hcells hO
                      go_wp2
                      go_roundg (2 * nn + 1 - (2 * (e + 1) + st.length))
                      case measure => go_light; simp only [List.length_cons]; omega
                      case rel => go_light; exact ⟨e + 1, st, _, rfl, by go_num, by congr 1; omega, rfl, HO2, hwx, hBx, HT2⟩
                · as_aux_lemma =>
                    obtain ⟨m, hm, rfl, hkl, hT2⟩ := hT.down hc0
                    have HT2 : Hid (Trav p ν G nn k (m :: st) (G (ν m) 0)) := hT2
                    clear hT hT2
                    obtain ⟨ea, ec, rfl⟩ := owns_form hO
                    have Hblk : Hid (∀ q, Value.ownBlock (.slice ea st.length ec) = some q → wr.heap.size ≤ q) := owns_block hO
                    have j3 := Hps m hm
                    have j4 := Hls m hm
                    have j5 : ((ν m : Nat) : Int) < (n : Int) := by omega
                    have j6 : (0 : Int) < ((ν m : Nat) : Int) := by omega
                    have hsl : st.length < nn := by omega
                    have hcne : ((ν m : Nat) : Int) ≠ 0 := by omega
                    clear hc0
                    go_wp2_with (at_builtin; refine wpList_append_own_at _ rfl _ _ 52 rfl wr.heap.size 21 i0 (.int .i32 0) 1 4 Try.underlying52 hi hz0 hz1 hz2 rfl (by decide) _ _ _ rfl (hO.alloc _) ⟨W3.heap.size, 0, none⟩ 1 1 [.int .i32 (ν m : Int)] rfl rfl (cell_one_new _ _ _) (ints_oneCell .i32 [(ν m : Int)]) (by unfold maxLen; omega) (by omega) (by simp; omega) ?_; intro v' w1 hown' hgrow' hnil hloc; (have hB7 : Below w6.heap.size w6 w1 := (hBx.alloc hBx.size _).grown hgrow' (by have := hBx.size; simp; omega) (fun q hq => by have := Hblk q hq; omega)); (have yg : w1.cell? ⟨g3, ν m * 31 + 23 + τ * 3, none⟩ = some (.int .i32 (G (ν m) 0)) := (hB7.cell (p := ⟨g3, ν m * 31 + 23 + τ * 3, none⟩) hgl).trans (HG (ν m) j4 0 (by omega))))
                    have hw7 : wr.heap.size ≤ w1.heap.size := by have := hgrow'.size; simp at this; omega
                    have HO7 : Hid (w1.ownsRow wr.heap.size 21 1 v' (st.length + 1) (stv ν (m :: st))) := by rw [stv_cons]; exact hown'
                    clear hown' hnil hloc hgrow' hO
                    go_wp2
                    go_roundg (2 * nn + 1 - (2 * k + (st.length + 1)))
                    case measure => go_light; omega
                    case rel => go_light; exact ⟨k, m :: st, _, rfl, rfl, by simp only [List.length_cons]; congr 1, rfl, HO7, hw7, hB7, HT2⟩
end Go.Proofs.Qxb6601797a
