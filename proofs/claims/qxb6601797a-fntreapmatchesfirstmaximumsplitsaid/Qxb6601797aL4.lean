/- Walk: the law FnTreapMatchesFirstMaximumSplit. -/
import Derived.Test.Qxb6601797aCart2
namespace Go.Proofs.Qxb6601797a
open Go.RowKit Go.Maps

set_option maxHeartbeats 4000000 in
set_option maxRecDepth 100000 in
theorem law4_any (a0 : Addr) (an : Option Addr) (n c nn cn : Nat) (t : Int) (X : Nat → Pc) (T : Nat → Nat → Int) (M : Nat → Nat → Mk) (N : Nat → Int) (w : World) (hn : n ≤ maxLen) (hnn : nn ≤ maxLen) (hX : ∀ i, i < n → (X i).tn ≤ maxLen ∧ (X i).mn ≤ maxLen)
    (hD : Data w 0 (some a0) n X T M) (hN : Row w 0 an nn (fun i => .int .i32 (N i))) (hNr : ∀ i, i < nn → -2147483648 ≤ N i ∧ N i ≤ 2147483647) :
    Calls Try.prog 4 #[.slice (some a0) n c, .int .i64 t, .slice an nn cn] w fun e w' => RetTrue w e w' := by
  have hn' := hn
  have hnn' := hnn
  unfold maxLen at hn' hnn'
  go_enter Try.func4, Try.ntmps4
  go_wp2_with fail
  refine (bytes_any15 (some a0) an n c nn cn 0 _ X _ hn hnn hX hD.row).mono ?_
  rintro e w1 ⟨x, rfl, rfl⟩
  by_cases hx : x = true
  case neg =>
    as_aux_lemma =>
      obtain rfl : x = false := by simpa using hx
      go_wp2
      go_ret
      exact ⟨rfl, Below.refl _ _⟩
  subst hx
  by_cases h1 : n ≤ 65536
  case neg =>
    as_aux_lemma =>
      go_wp2
      go_ret
      exact ⟨rfl, Below.refl _ _⟩
  by_cases h2 : nn ≤ 65536
  case neg =>
    as_aux_lemma =>
      go_wp2
      go_ret
      exact ⟨rfl, Below.refl _ _⟩
  go_wp2_with fail
  refine (piecesBytes_any (some a0) n c 0 X _ h1 hX hD.row).mono ?_
  rintro e w1 ⟨B, rfl, hB0, hB1, hB2, hBel⟩
  by_cases h3 : B + 4 * (nn : Int) ≤ 1048576
  case neg =>
    as_aux_lemma =>
      clear hB2
      go_wp2
      go_ret
      exact ⟨rfl, hBel⟩
  obtain ⟨h128, hsz⟩ := hB2 (by omega)
  have hn8 : n ≤ 8192 := by omega
  have hD1 := hD.below (Nat.le_refl _) hBel
  have hN1 := hN.below (Nat.le_refl _) hBel
  clear hB2 hD hN hX h128
  have Hsz : Hid (∀ i, i < n → (X i).tn ≤ 1048576 ∧ (X i).mn ≤ 1048576) := hsz
  have HNr : Hid (∀ i, i < nn → -2147483648 ≤ N i ∧ N i ≤ 2147483647) := hNr
  clear hsz hNr
  have hneq := fun w => run_neq_slice_nil (P := Try.prog) w 52 21 an nn cn Try.underlying52
  go_upto_if 38 with fail
  go_cut [2] (fun s2 wx => ∃ a2 c2, s2 = .slice a2 nn c2 ∧ Row wx w1.heap.size a2 nn (fun i => .int .i32 (N i)) ∧ Below w1.heap.size w1 wx)
  case first =>
    cases an with
    | none =>
      as_aux_lemma =>
        obtain rfl : nn = 0 := hN1.nil rfl
        go_wp2_with fail
        go_meet
        exact ⟨none, _, rfl, Row.zero _ _ _ _, Below.refl _ _⟩
    | some an0 =>
      as_aux_lemma =>
        have hcp := run_copy_fresh (P := Try.prog) w1 52 21 3 (.int .i32 0) (fun i => .int .i32 (N i)) an0 nn cn Try.underlying52 (by kernel_rfl) 0 hN1 (fun i => rfl)
        have hmk := run_make_row' (P := Try.prog) 52 21 (.int .i32 0) 4 Try.underlying52 Try.info21 rfl .i64 .i64 nn (by omega) (by omega)
        go_wp2
        go_meet
        exact ⟨_, _, rfl, Row.of_rowIs (rowIs_fresh w1 nn 21 _) (Nat.le_refl _), (Below.refl _ _).alloc (Nat.le_refl _) _⟩
  case rest =>
    obtain ⟨a2, c2, rfl, hN2, hBc⟩ := hcut
    clear hneq hN1
    have hD2 := hD1.below (Nat.le_refl _) hBc
    have hBel2 := Below.next hBel hBc
    clear hD1 hBel hBc
    go_wp2_with fail
    refine (prem_any (some a0) a2 n c nn c2 0 t X N _ h1 h2 hD2.row (hN2.mono (Nat.zero_le _)) HNr).mono ?_
    rintro e w2 ⟨hBp, hpost⟩
    have hD3 := hD2.below (Nat.le_refl _) hBp
    have hN3 := hN2.below (Nat.le_refl _) hBp
    have hBel3 := Below.next hBel2 hBp
    have hwc := hBp.size
    clear hD2 hN2 hBel2 hBp
    rcases hpost with ⟨v, rfl⟩ | ⟨sa, τ, rfl, hτ, rfl, hPrem, hSeen⟩
    · as_aux_lemma =>
        go_wp2
        go_ret
        exact ⟨rfl, hBel3⟩
    · have HPrem : Hid (Prem n nn τ X N) := hPrem
      clear hPrem
      have hgs : w2.heap.size ≤ w2.heap.size := Nat.le_refl _
      go_wp2_with fail
      refine (zp_any a0 n c X T M _ h1 Hsz hD3).mono ?_
      rintro e w3 ⟨hB3, hp3⟩
      rcases hp3 with ⟨h, _⟩ | ⟨g1, X1, _, rfl, hg1, hP1, hA1⟩
      case inl => cases h
      have hD4 := hD3.below (Nat.le_refl _) hB3
      have hN4 := hN3.below (Nat.le_refl _) hB3
      have hS4 := hSeen.below (Nat.le_refl _) hB3
      have hBel4 := Below.next hBel3 hB3
      clear hD3 hN3 hSeen hBel3 hB3
      have hsz1 : ∀ i, i < n → (X1 i).tn ≤ 1048576 ∧ (X1 i).mn ≤ 1048576 := fun i hi => (hA1 i hi).sizes (Hsz i hi)
      go_wp2_with fail
      refine (mp_any g1 n n X1 T M _ h1 hsz1 hP1).mono ?_
      rintro e w4 ⟨hB4, hp4⟩
      rcases hp4 with ⟨h, _⟩ | ⟨g2, X2, _, rfl, hg2, hP2, hA2⟩
      case inl => cases h
      have hsz2 : ∀ i, i < n → (X2 i).tn ≤ 1048576 ∧ (X2 i).mn ≤ 1048576 := fun i hi => (hA2 i hi).sizes (hsz1 i hi)
      have hD5 := hD4.below (Nat.le_refl _) hB4
      have hN5 : RowN w4 g2 a2 nn (fun i => .int .i32 (nu N i : Int)) := by
        refine (RowN.of_old ?_ hg2).below (Nat.le_refl _) hB4
        exact (hN4.mono (Nat.zero_le _)).congr fun i hi => by rw [nu_eq HPrem hi]
      have hS5 : RowN w4 g2 sa n (fun i => .bool (sn N nn i)) := (RowN.of_old (hS4.mono (Nat.zero_le _)) hg2).below (Nat.le_refl _) hB4
      have hDr : RowN w4 g2 (some a0) (n * 31) (pcs X) := (RowN.of_old hD4.row hg2).below (Nat.le_refl _) hB4
      have hDT : ∀ i, i < n → RowN w4 g2 (X i).ta (X i).tn (fun j => .int .i32 (T i j)) := fun i hi => (RowN.of_old (hD4.text i hi) hg2).below (Nat.le_refl _) hB4
      have hDM : ∀ i, i < n → RowN w4 g2 (X i).ma ((X i).mn * 18) (mks (M i)) := fun i hi => (RowN.of_old (hD4.mark i hi) hg2).below (Nat.le_refl _) hB4
      have hBel5 := Below.next hBel4 hB4
      have hg2w : w.heap.size ≤ g2 := Nat.le_trans hBel4.size hg2
      clear hD4 hN4 hS4 hBel4 hB4 hP1 hsz1 hD5 hg2 hg1
      go_wp2_with fail
      refine (zt_any g2 n n a2 nn c2 τ X2 (nu N) _ h1 h2 hτ hP2.row hN5 (nu_pos HPrem) (nu_lt HPrem) (nu_inj HPrem) (zero_on HPrem hτ hA1 hA2)).mono ?_
      rintro e w5 ⟨G, r, rfl, hFr, hrow, hCT, hrest⟩
      have hP5 := hP2.treap hFr hrow
      have hN6 := (hN5.keep hFr.keep).row
      have hS6 := (hS5.keep hFr.keep).row
      have hD6 := (hDr.keep hFr.keep).row
      have hDT6 := fun i hi => ((hDT i hi).keep hFr.keep).row
      have hDM6 := fun i hi => ((hDM i hi).keep hFr.keep).row
      have hBel6 : Below w.heap.size w w5 := hBel5.trans (hFr.below.mono hg2w)
      clear hP2 hrow hFr hN5 hS5 hDr hDT hDM hBel5
      have hCT' : CT (fun m => (X (nu N m)).pri) (nu N) G 0 nn 0 r := hCT.pri fun m hm => by
        have hl := nu_lt HPrem m hm
        show (X (nu N m)).pri = (X2 (nu N m)).pri
        rw [(hA2 _ hl).pri, (hA1 _ hl).pri]
      clear hCT
      go_wp2_with fail
      refine (rp_any g2 n n (setG X2 τ G) T M _ h1 (fun i hi => setG_sizes (hsz2 i hi)) hP5).mono ?_
      rintro e w6 ⟨hB6, hp6⟩
      rcases hp6 with ⟨h, _⟩ | ⟨g3, X3, _, rfl, hg3, hP6, hA3⟩
      case inl => cases h
      have hN7 := hN6.below (Nat.le_refl _) hB6
      have hS7 := hS6.below (Nat.le_refl _) hB6
      have hD7 := hD6.below (Nat.le_refl _) hB6
      have hDT7 := fun i hi => (hDT6 i hi).below (Nat.le_refl _) hB6
      have hDM7 := fun i hi => (hDM6 i hi).below (Nat.le_refl _) hB6
      have hBf := Below.next hBel6 hB6
      clear hN6 hS6 hD6 hDT6 hDM6 hBel6 hB6 hP5 hsz2 hg3
      have hp6 : ∀ i, i < n → ∀ c, c < 3 → (X3 i).pl (τ * 3 + c) = G i c := fun i hi c hc => by rw [(hA3 i hi).pl _ (by omega), setG_pl X2 G i hc]
      have hq6 : ∀ i, i < n → ∀ q, q < 6 → q / 3 ≠ τ → (X3 i).pl q = (X i).pl q := fun i hi q hq hne => by rw [(hA3 i hi).pl q hq, setG_other X2 G i hne, (hA2 i hi).pl q hq, (hA1 i hi).pl q hq]
      have hlike : ∀ i, i < n → Like (X i) (X3 i) := fun i hi => Like.of (hA1 i hi) (hA2 i hi) rfl (hA3 i hi)
      have hGo : ∀ k, k < n → (∀ m, m < nn → nu N m ≠ k) → ∀ c, c < 3 → G k c = (X k).pl (τ * 3 + c) := fun k hk hm c hc => by rw [hrest k hm c, (hA2 k hk).pl _ (by omega), (hA1 k hk).pl _ (by omega)]
      have hps := nu_pos HPrem
      have hls := nu_lt HPrem
      have hij := nu_inj HPrem
      have Hp6 : Hid (∀ i, i < n → ∀ c, c < 3 → (X3 i).pl (τ * 3 + c) = G i c) := hp6
      have Hq6 : Hid (∀ i, i < n → ∀ q, q < 6 → q / 3 ≠ τ → (X3 i).pl q = (X i).pl q) := hq6
      have Hlike : Hid (∀ i, i < n → Like (X i) (X3 i)) := hlike
      generalize nu N = ν at hCT' hN7 hGo hps hls hij
      have HGo : Hid (∀ k, k < n → (∀ m, m < nn → ν m ≠ k) → ∀ c, c < 3 → G k c = (X k).pl (τ * 3 + c)) := hGo
      have Hls : Hid (∀ m, m < nn → ν m < n) := hls
      have Hij : Hid (∀ a b, a < nn → b < nn → ν a = ν b → a = b) := hij
      have HCT : Hid (CT (fun m => (X (ν m)).pri) ν G 0 nn 0 r) := hCT'
      have HDT : Hid (∀ i, i < n → Row w6 0 (X i).ta (X i).tn (fun j => .int .i32 (T i j))) := hDT7
      have HDM : Hid (∀ i, i < n → Row w6 0 (X i).ma ((X i).mn * 18) (mks (M i))) := hDM7
      clear hGo hls hij hps hCT' hp6 hq6 hlike hA3 hA1 hA2 hrest hDT7 hDM7 HPrem HNr hgs hwc hg2w hn hnn hn' hnn' hB0 hB1 h3 hS7
      have hτz : (τ : Int) < 2 := by omega
      obtain ⟨cs, hcs, hmk⟩ := run_make_any Try.underlying64 Try.size66t n (by omega)
      go_wp2
      clear hmk
      go_loopg [14] n (fun q s14 wr => ∃ i : Nat, i ≤ n ∧ q = n - i ∧ s14 = .int .i64 i ∧ Part wr w6.heap.size 66 (n * 3) (i * 3) (ecs (fun k c => (X k).pl (τ * 3 + c))) ∧ Below w6.heap.size w6 wr)
      case atStart => exact ⟨0, Nat.zero_le _, rfl, rfl, ⟨fun j => cs.getD j default, by have h := rowIs_new w6 66 cs; rw [hcs] at h; exact h, fun i hi => by omega⟩, (Below.refl _ _).alloc (Nat.le_refl _) _⟩
      case round =>
        obtain ⟨i, hi0, rfl, rfl, hP, hBx⟩ := hrel
        by_cases hi : i < n
        · as_aux_lemma =>
            obtain ⟨b, off, hab, hcD⟩ := hD7
            obtain ⟨e1, _⟩ := hab (by omega)
            obtain rfl := Option.some.inj e1
            have hbl : b < w6.heap.size := World.block_lt_of_cell? _ _ (hcD 0 (by omega))
            have ef : ∀ f, f < 31 → wr.cell? ⟨b, off + i * 31 + f, none⟩ = some ((X i).cell f) := fun f hf => (hBx.cell (p := ⟨b, off + i * 31 + f, none⟩) hbl).trans (Row.pc hcD hi f hf)
            have rg := pl_range hτ ef
            have Hrg : Hid (wr.rangeAt b (off + i * 31 + 23 + τ * 3) [Value.int .i32 ((X i).pl (τ * 3)), .int .i32 ((X i).pl (τ * 3 + 1)), .int .i32 ((X i).pl (τ * 3 + 2))]) := rg
            have hth : wr.there w6.heap.size (i * 3) 3 := by obtain ⟨F, q0, _⟩ := hP; exact rowIs_there q0 (by omega)
            have Hth : Hid _ := hth
            have hPn := Part.threeN hP [Value.int .i32 ((X i).pl (τ * 3)), .int .i32 ((X i).pl (τ * 3 + 1)), .int .i32 ((X i).pl (τ * 3 + 2))] (by
              have q0 := ecs_at (fun k c => (X k).pl (τ * 3 + c)) i (c := 0) (by omega)
              have q1 := ecs_at (fun k c => (X k).pl (τ * 3 + c)) i (c := 1) (by omega)
              have q2 := ecs_at (fun k c => (X k).pl (τ * 3 + c)) i (c := 2) (by omega)
              rw [Nat.add_zero] at q0
              rw [q0, q1, q2]
              rfl)
            have hBn : Below w6.heap.size w6 (wr.setCells w6.heap.size (i * 3) [Value.int .i32 ((X i).pl (τ * 3)), .int .i32 ((X i).pl (τ * 3 + 1)), .int .i32 ((X i).pl (τ * 3 + 2))]) := setCells_below (Nat.le_refl _) _ hBx
            generalize (X i).pl (τ * 3) = v0 at *
            generalize (X i).pl (τ * 3 + 1) = v1 at *
            generalize (X i).pl (τ * 3 + 2) = v2 at *
            obtain ⟨Wn, hWn⟩ : ∃ W, wr.setCells w6.heap.size (i * 3) [Value.int .i32 v0, .int .i32 v1, .int .i32 v2] = W := ⟨_, rfl⟩
            rw [hWn] at hPn hBn
            have HWn : Hid _ := hWn
            have HPn : Hid _ := hPn
            have hiz : (i : Int) < (n : Int) := by omega
            clear hWn hPn hP rg ef hcD hab e1 hth
            go_upto_region 21 with fail
            refine wp_region_plain_last ?_
            dsimp only [initL, lastL]
            iterate 8 (go_big_quiet_step (fail))
            go_big_quiet_want
            refine quiet_load_mid 66 (.tmp 80) rfl b (off + i * 31 + 23 + τ * 3) rfl [Value.int .i32 v0, .int .i32 v1, .int .i32 v2] _ Hrg Try.underlying66 rfl Try.size66 ?_
            go_simp
            go_big_quiet_on
            iterate 1 (go_big_quiet_step (fail))
            refine wpQuiet_nil ?_
            intro wz hz
            obtain ⟨nq, rfl⟩ := hz
            refine wpList_store_to rfl 66 (.tmp 82) (.tmp 81) rfl w6.heap.size (i * 3) [Value.int .i32 v0, .int .i32 v1, .int .i32 v2] (Wn.drewN nq) (by rw [← show wr.setCells w6.heap.size (i * 3) [Value.int .i32 v0, .int .i32 v1, .int .i32 v2] = Wn from HWn]; exact setCells_drewN _) rfl rfl Hth Try.size66 (by simp [Value.oneCell']) ?_
            refine wpList_nil ?_
            go_wp2
            go_roundg (n - (i + 1))
            case measure => go_light; omega
            case rel => go_light; exact ⟨i + 1, by omega, rfl, by go_num, HPn, below_drewN hBn nq⟩
        · obtain rfl : n = i := by omega
          have hR8 := hP.full
          have hD8 : RowN wr w6.heap.size (some a0) (n * 31) (pcs X) := (RowN.of_old hD7 (Nat.le_refl _)).below (Nat.le_refl _) hBx
          have hN8 : RowN wr w6.heap.size a2 nn (fun i => .int .i32 (ν i : Int)) := (RowN.of_old hN7 (Nat.le_refl _)).below (Nat.le_refl _) hBx
          have hcl := cart_law a0 a2 w6.heap.size n nn c c2 X (fun m => (X (ν m)).pri) ν (fun k c => (X k).pl (τ * 3 + c)) wr h1 h2 Hls Hij (fun m _ => rfl) hD8 hN8 hR8
          clear hP hR8 hD8 hN8
          go_wp2_with fail
          refine hcl.mono ?_
          rintro e w7 ⟨E', r', rfl, hF7, hR7, hT7, hk7⟩
          clear hcl
          obtain ⟨rfl, hu⟩ := (show CT (fun m => (X (ν m)).pri) ν G 0 nn 0 r from HCT).unique hT7
          have hE : ∀ k, k < n → ∀ c, c < 3 → E' k c = G k c := fun k hk c hc => by
            by_cases hm : ∃ m, m < nn ∧ ν m = k
            · obtain ⟨m, hm, rfl⟩ := hm
              exact (hu m (Nat.zero_le _) hm c hc).symm
            · have hno : ∀ m, m < nn → ν m ≠ k := fun m hm' e => hm ⟨m, hm', e⟩
              rw [hk7 k (fun m _ hm' => hno m hm') c, HGo k hk hno c hc]
          have hws := hBx.size
          have hB7 : Below w6.heap.size w6 w7 := hBx.trans hF7.below
          have HE : Hid (∀ k, k < n → ∀ c, c < 3 → E' k c = G k c) := hE
          have HR7 : Hid (w7.rowIs w6.heap.size 66 (n * 3) (ecs E')) := hR7
          clear hu hT7 hk7 hE hF7 hR7 hBx
          go_wp2
          go_loopg [16] n (fun q s16 wx => ∃ i : Nat, i ≤ n ∧ q = n - i ∧ s16 = .int .i64 i ∧ Below w7.heap.size w7 wx)
          case atStart => exact ⟨0, Nat.zero_le _, rfl, rfl, Below.refl _ _⟩
          case round =>
            obtain ⟨i, hi0, rfl, rfl, hBx⟩ := hrel
            by_cases hi : i < n
            · as_aux_lemma =>
                obtain ⟨b, off, hab, hcD⟩ := hD7
                obtain ⟨e1, _⟩ := hab (by omega)
                obtain rfl := Option.some.inj e1
                have hw7 := hB7.size
                have hwx := hBx.size
                have hBr : Below w6.heap.size w6 wr := hB7.trans (hBx.mono hw7)
                have hbl : b < w6.heap.size := World.block_lt_of_cell? _ _ (hcD 0 (by omega))
                have hgl : g3 < w6.heap.size := World.block_lt_of_cell? _ _ (hP6.row.cell (i := 0) (by omega))
                have hel : w6.heap.size < w7.heap.size := World.block_lt_of_cell? _ _ (HR7.cell (i := 0) (by omega))
                have ef : ∀ f, f < 31 → wr.cell? ⟨b, off + i * 31 + f, none⟩ = some ((X i).cell f) := fun f hf => (hBr.cell (p := ⟨b, off + i * 31 + f, none⟩) hbl).trans (Row.pc hcD hi f hf)
                have eg : ∀ f, f < 31 → wr.cell? ⟨g3, i * 31 + f, none⟩ = some ((X3 i).cell f) := fun f hf => (hBr.cell (p := ⟨g3, i * 31 + f, none⟩) hgl).trans ((hP6.row.cell (by omega)).trans (by rw [pcs_at X3 i f hf]))
                have ee : ∀ c, c < 3 → wr.cell? ⟨w6.heap.size, i * 3 + c, none⟩ = some (.int .i32 (G i c)) := fun c hc => (hBx.cell (p := ⟨w6.heap.size, i * 3 + c, none⟩) hel).trans ((HR7.cell (by omega)).trans (by rw [ecs_at E' i hc, HE i hi c hc]))
                obtain ⟨τ', hτe⟩ : ∃ q, q = 1 - τ := ⟨_, rfl⟩
                have hτ1 : (1 : Int) - (τ : Int) = (τ' : Int) := by omega
                have hτ2 : τ' < 2 := by omega
                have hτ3 : (τ' : Int) < 2 := by omega
                have hτn : τ' ≠ τ := by omega
                have r1 : wr.rangeAt w6.heap.size (i * 3) [Value.int .i32 (G i 0), .int .i32 (G i 1), .int .i32 (G i 2)] := range3 (ee 0 (by omega)) (ee 1 (by omega)) (ee 2 (by omega))
                have r2 := pl_range hτ eg
                have p0 := Hp6 i hi 0 (by omega)
                rw [Nat.add_zero] at p0
                rw [p0, Hp6 i hi 1 (by omega), Hp6 i hi 2 (by omega)] at r2
                have r3 := pl_range hτ2 ef
                have r4 := pl_range hτ2 eg
                rw [Hq6 i hi (τ' * 3) (by omega) (by omega), Hq6 i hi (τ' * 3 + 1) (by omega) (by omega), Hq6 i hi (τ' * 3 + 2) (by omega) (by omega)] at r4
                have r5 := range31 ef
                have r6 := range31 eg
                have hs5 : (Try.prog.info? 70).map (·.size) = some (X i).list.length := by rw [Pc.list_length]; exact Try.size70'
                have hs6 : (Try.prog.info? 77).map (·.size) = some (X3 i).list.length := by rw [Pc.list_length]; exact Try.size77'
                have hrc := fun (q : Ext wr) => rest_any (X i) (X3 i) (T i) (M i) q.val (Hlike i hi) (Hsz i hi).1 (Hsz i hi).2
                  (((HDT i hi).below (Nat.le_refl _) hBr).below (Nat.le_refl _) q.prop) (((hP6.text i hi).row.below (Nat.le_refl _) hBr).below (Nat.le_refl _) q.prop)
                  (((HDM i hi).below (Nat.le_refl _) hBr).below (Nat.le_refl _) q.prop) (((hP6.mark i hi).row.below (Nat.le_refl _) hBr).below (Nat.le_refl _) q.prop)
                generalize (X i).pl (τ' * 3) = u0 at r3 r4
                generalize (X i).pl (τ' * 3 + 1) = u1 at r3 r4
                generalize (X i).pl (τ' * 3 + 2) = u2 at r3 r4
                generalize G i 0 = v0 at r1 r2
                generalize G i 1 = v1 at r1 r2
                generalize G i 2 = v2 at r1 r2
                generalize (X i).list = L1 at r5 hs5 hrc
                generalize (X3 i).list = L2 at r6 hs6 hrc
                have H1 : Hid (wr.rangeAt w6.heap.size (i * 3) [Value.int .i32 v0, .int .i32 v1, .int .i32 v2]) := r1
                have H2 : Hid (wr.rangeAt g3 (i * 31 + 23 + τ * 3) [Value.int .i32 v0, .int .i32 v1, .int .i32 v2]) := r2
                have H3 : Hid (wr.rangeAt b (off + i * 31 + 23 + τ' * 3) [Value.int .i32 u0, .int .i32 u1, .int .i32 u2]) := r3
                have H4 : Hid (wr.rangeAt g3 (i * 31 + 23 + τ' * 3) [Value.int .i32 u0, .int .i32 u1, .int .i32 u2]) := r4
                have H5 : Hid (wr.rangeAt b (off + i * 31) L1) := r5
                have H6 : Hid (wr.rangeAt g3 (i * 31) L2) := r6
                have Hs5 : Hid _ := hs5
                have Hs6 : Hid _ := hs6
                have Hrc : Hid (∀ q : Ext wr, Calls Try.prog 24 #[.agg L1.toArray, .agg L2.toArray] q.val fun e w' => RetSame q.val e w') := hrc
                have hiz : (i : Int) < (n : Int) := by omega
                have hb' : b < wr.heap.size := by omega
                have hg' : g3 < wr.heap.size := by omega
                have he' : w6.heap.size < wr.heap.size := by omega
                clear r1 r2 r3 r4 r5 r6 hs5 hs6 hrc ef eg ee p0 hcD hab e1 hτe
                go_upto_region 28 with fail
                refine wp_region_ext (by kernel_rfl) (by kernel_rfl) ?_
                iterate 3 (go_big_quiet_step (fail))
                go_big_quiet_want
                refine quiet_load_ext 66 (.tmp 107) rfl w6.heap.size (i * 3) rfl [Value.int .i32 v0, .int .i32 v1, .int .i32 v2] _ he' H1 Try.underlying66 rfl Try.size66 ?_
                go_simp
                go_big_quiet_on
                iterate 6 (go_big_quiet_step (fail))
                go_big_quiet_want
                refine quiet_load_ext 73 (.tmp 114) rfl g3 (i * 31 + 23 + τ * 3) rfl [Value.int .i32 v0, .int .i32 v1, .int .i32 v2] _ hg' H2 Try.underlying73 rfl Try.size73 ?_
                go_simp
                go_big_quiet_on
                go_big_quiet_step ((refine (samePlace_any _ _ _ _).mono ?_; rintro e w' ⟨rfl, hb⟩; exact ⟨rfl, ⟨w', Below.next (Ext.prop _) hb⟩, rfl⟩))
                iterate 2 (go_big_quiet_step (fail))
                iterate 7 (go_big_quiet_step (fail))
                go_big_quiet_want
                refine quiet_load_ext 66 (.tmp 125) rfl b (off + i * 31 + 23 + τ' * 3) rfl [Value.int .i32 u0, .int .i32 u1, .int .i32 u2] _ hb' H3 Try.underlying66 rfl Try.size66 ?_
                go_simp
                go_big_quiet_on
                iterate 7 (go_big_quiet_step (fail))
                go_big_quiet_want
                refine quiet_load_ext 73 (.tmp 133) rfl g3 (i * 31 + 23 + τ' * 3) rfl [Value.int .i32 u0, .int .i32 u1, .int .i32 u2] _ hg' H4 Try.underlying73 rfl Try.size73 ?_
                go_simp
                go_big_quiet_on
                go_big_quiet_step ((refine (samePlace_any _ _ _ _).mono ?_; rintro e w' ⟨rfl, hb⟩; exact ⟨rfl, ⟨w', Below.next (Ext.prop _) hb⟩, rfl⟩))
                iterate 6 (go_big_quiet_step (fail))
                go_big_quiet_want
                refine quiet_load_ext 70 (.tmp 141) rfl b (off + i * 31) rfl L1 _ hb' H5 Try.underlying70 rfl Hs5 ?_
                go_simp
                go_big_quiet_on
                iterate 3 (go_big_quiet_step (fail))
                go_big_quiet_want
                refine quiet_load_ext 77 (.tmp 145) rfl g3 (i * 31) rfl L2 _ hg' H6 Try.underlying77 rfl Hs6 ?_
                go_simp
                go_big_quiet_on
                go_big_quiet_step ((refine ((show ∀ q : Ext wr, Calls Try.prog 24 #[.agg L1.toArray, .agg L2.toArray] q.val fun e w' => RetSame q.val e w' from Hrc) _).mono ?_; rintro e w' ⟨rfl, hb⟩; exact ⟨rfl, ⟨w', Below.next (Ext.prop _) hb⟩, rfl⟩))
                iterate 2 (go_big_quiet_step (fail))
                refine wpQuiet_nil ?_
                intro wz hz
                obtain ⟨q, rfl⟩ := hz
                have hBq := q.prop
                generalize q.val = Wq at hBq ⊢
                have hBn : Below w7.heap.size w7 Wq := hBx.trans (hBq.mono hwx)
                clear hBq
                go_wp2
                go_roundg (n - (i + 1))
                case measure => go_light; omega
                case rel => go_light; exact ⟨i + 1, by omega, rfl, by go_num, hBn⟩
            · as_aux_lemma =>
                obtain rfl : n = i := by omega
                go_wp2
                go_ret
                exact ⟨rfl, (hBf.trans (hB7.mono hBf.size)).trans (hBx.mono (Nat.le_trans hBf.size hB7.size))⟩
end Go.Proofs.Qxb6601797a
