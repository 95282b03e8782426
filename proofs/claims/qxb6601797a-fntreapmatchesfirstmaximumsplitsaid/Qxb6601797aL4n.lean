/- Walk: the law FnTreapMatchesFirstMaximumSplit, at a nil slice of pieces. -/
import Derived.Test.Qxb6601797aCart2
namespace Go.Proofs.Qxb6601797a
open Go.RowKit

set_option maxHeartbeats 4000000 in
set_option maxRecDepth 100000 in
theorem law4_nil (an : Option Addr) (n c nn cn : Nat) (t : Int) (X : Nat → Pc) (T : Nat → Nat → Int) (M : Nat → Nat → Mk) (N : Nat → Int) (w : World) (hn0 : n = 0) (hn : n ≤ maxLen) (hnn : nn ≤ maxLen) (hX : ∀ i, i < n → (X i).tn ≤ maxLen ∧ (X i).mn ≤ maxLen)
    (hD : Data w 0 none n X T M) (hN : Row w 0 an nn (fun i => .int .i32 (N i))) (hNr : ∀ i, i < nn → -2147483648 ≤ N i ∧ N i ≤ 2147483647) :
    Calls Try.prog 4 #[.slice none n c, .int .i64 t, .slice an nn cn] w fun e w' => RetTrue w e w' := by
  have Hn0 : Hid (n = 0) := hn0
  clear hn0
  have hn' := hn
  have hnn' := hnn
  unfold maxLen at hn' hnn'
  go_enter Try.func4, Try.ntmps4
  go_wp2_with fail
  refine (bytes_any15 none an n c nn cn 0 _ X _ hn hnn hX hD.row).mono ?_
  rintro e w1 ⟨x, rfl, rfl⟩
  by_cases hx : x = true
  case neg =>
    as_aux_lemma =>
      obtain rfl : x = false := by simpa using hx
      go_wp2
      go_ret
      exact ⟨rfl, Below.refl _ _⟩
  subst hx
  by_cases h1 : n ≤ 65536
  case neg =>
    as_aux_lemma =>
      go_wp2
      go_ret
      exact ⟨rfl, Below.refl _ _⟩
  by_cases h2 : nn ≤ 65536
  case neg =>
    as_aux_lemma =>
      go_wp2
      go_ret
      exact ⟨rfl, Below.refl _ _⟩
  go_wp2_with fail
  refine (piecesBytes_any none n c 0 X _ h1 hX hD.row).mono ?_
  rintro e w1 ⟨B, rfl, hB0, hB1, hB2, hBel⟩
  by_cases h3 : B + 4 * (nn : Int) ≤ 1048576
  case neg =>
    as_aux_lemma =>
      clear hB2
      go_wp2
      go_ret
      exact ⟨rfl, hBel⟩
  obtain ⟨h128, hsz⟩ := hB2 (by omega)
  have hn8 : n ≤ 8192 := by omega
  have hD1 := hD.below (Nat.le_refl _) hBel
  have hN1 := hN.below (Nat.le_refl _) hBel
  clear hB2 hD hN hX h128
  have Hsz : Hid (∀ i, i < n → (X i).tn ≤ 1048576 ∧ (X i).mn ≤ 1048576) := hsz
  have HNr : Hid (∀ i, i < nn → -2147483648 ≤ N i ∧ N i ≤ 2147483647) := hNr
  clear hsz hNr
  have hneq := fun w => run_neq_slice_nil (P := Try.prog) w 52 21 an nn cn Try.underlying52
  go_upto_if 38 with fail
  go_cut [2] (fun s2 wx => ∃ a2 c2, s2 = .slice a2 nn c2 ∧ Row wx w1.heap.size a2 nn (fun i => .int .i32 (N i)) ∧ Below w1.heap.size w1 wx)
  case first =>
    cases an with
    | none =>
      as_aux_lemma =>
        obtain rfl : nn = 0 := hN1.nil rfl
        go_wp2_with fail
        go_meet
        exact ⟨none, _, rfl, Row.zero _ _ _ _, Below.refl _ _⟩
    | some an0 =>
      as_aux_lemma =>
        have hcp := run_copy_fresh (P := Try.prog) w1 52 21 3 (.int .i32 0) (fun i => .int .i32 (N i)) an0 nn cn Try.underlying52 (by kernel_rfl) 0 hN1 (fun i => rfl)
        have hmk := run_make_row' (P := Try.prog) 52 21 (.int .i32 0) 4 Try.underlying52 Try.info21 rfl .i64 .i64 nn (by omega) (by omega)
        go_wp2
        go_meet
        exact ⟨_, _, rfl, Row.of_rowIs (rowIs_fresh w1 nn 21 _) (Nat.le_refl _), (Below.refl _ _).alloc (Nat.le_refl _) _⟩
  case rest =>
    obtain ⟨a2, c2, rfl, hN2, hBc⟩ := hcut
    clear hneq hN1
    have hD2 := hD1.below (Nat.le_refl _) hBc
    have hBel2 := Below.next hBel hBc
    clear hD1 hBel hBc
    go_wp2_with fail
    refine (prem_any none a2 n c nn c2 0 t X N _ h1 h2 hD2.row (hN2.mono (Nat.zero_le _)) HNr).mono ?_
    rintro e w2 ⟨hBp, hpost⟩
    have hD3 := hD2.below (Nat.le_refl _) hBp
    have hN3 := hN2.below (Nat.le_refl _) hBp
    have hBel3 := Below.next hBel2 hBp
    have hwc := hBp.size
    clear hD2 hN2 hBel2 hBp
    rcases hpost with ⟨v, rfl⟩ | ⟨sa, τ, rfl, hτ, rfl, hPrem, hSeen⟩
    · as_aux_lemma =>
        go_wp2
        go_ret
        exact ⟨rfl, hBel3⟩
    · have HPrem : Hid (Prem n nn τ X N) := hPrem
      clear hPrem
      as_aux_lemma =>
        obtain rfl : n = 0 := Hn0
        obtain rfl : nn = 0 := by
          rcases Nat.eq_zero_or_pos nn with q | q
          · exact q
          · have := HPrem.rng 0 q; omega
        go_wp2_with fail
        refine (zp_nil c X T M _).mono ?_
        rintro e w3 ⟨hB3, hp3⟩
        rcases hp3 with ⟨_, rfl⟩ | ⟨_, _, h, _⟩
        case inr => exact absurd rfl h
        go_wp2_with fail
        refine (mp_nil 0 X T M _).mono ?_
        rintro e w4 ⟨hB4, hp4⟩
        rcases hp4 with ⟨_, rfl⟩ | ⟨_, _, h, _⟩
        case inr => exact absurd rfl h
        go_wp2_with fail
        refine (zt_zero _ a2 c2 _ _).mono ?_
        rintro e w5 ⟨rfl, rfl⟩
        go_wp2_with fail
        refine (rp_nil 0 X T M _).mono ?_
        rintro e w6 ⟨hB6, hp6⟩
        rcases hp6 with ⟨_, rfl⟩ | ⟨_, _, h, _⟩
        case inr => exact absurd rfl h
        have hBf := Below.next (Below.next (Below.next hBel3 hB3) hB4) hB6
        obtain ⟨cs, hcs, hmk⟩ := run_make_any Try.underlying64 Try.size66t 0 (by omega)
        have hmk0 : ∀ w : World, (Instr.makeSlice 64 (.int .i64 0) (.int .i64 0)).run Try.prog w = .ok (.slice (some ⟨w.heap.size, 0, none⟩) 0 0) (w.alloc (.cells cs 66)) := hmk
        clear hmk
        go_wp2
        clear hmk0
        go_loopg [14] 0 (fun q s14 wr => q = 0 ∧ s14 = .int .i64 0 ∧ Below w6.heap.size w6 wr)
        case atStart => exact ⟨rfl, rfl, (Below.refl _ _).alloc (Nat.le_refl _) _⟩
        case round =>
          obtain ⟨rfl, rfl, hBx⟩ := hrel
          go_wp2_with fail
          refine (cart_zero _ _ _ _ _).mono ?_
          rintro e w7 ⟨rfl, rfl⟩
          go_wp2
          go_loopg [16] 0 (fun q s16 wx => q = 0 ∧ s16 = .int .i64 0 ∧ Below w6.heap.size w6 wx)
          case atStart => exact ⟨rfl, rfl, hBx⟩
          case round =>
            clear hBx
            obtain ⟨rfl, rfl, hBx⟩ := hrel
            go_wp2
            go_ret
            exact ⟨rfl, hBf.trans (hBx.mono hBf.size)⟩
end Go.Proofs.Qxb6601797a
