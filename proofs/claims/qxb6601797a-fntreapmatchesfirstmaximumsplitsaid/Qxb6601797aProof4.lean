/- THE STATEMENT 'Rows.FnTreapMatchesFirstMaximumSplitSaid', PROVED. -/
import Derived.Test.Qxb6601797aRows
import Derived.Test.Qxb6601797aL4n
import Derived.Test.Qxb6601797aL4
import Derived.Test.Qxb6601797aOpen
import Derived.OpenShut
import Derived.ChangeOld
namespace Go.Proofs.Qxb6601797a
open Go.ChangeShapes Go.WideShapes Go.ChangeAt Go.RowKit

theorem own : ownKnob Try.prog.godebug = none := by kernel_rfl
theorem laidOut : laidOutB Try.prog = true := by kernel_rfl

theorem law4 (a an : Option Addr) (n c nn cn : Nat) (t : Int) (X : Nat → Pc) (T : Nat → Nat → Int) (M : Nat → Nat → Mk) (N : Nat → Int) (w : World) (hn : n ≤ maxLen) (hnn : nn ≤ maxLen) (hX : ∀ i, i < n → (X i).tn ≤ maxLen ∧ (X i).mn ≤ maxLen)
    (hD : Data w 0 a n X T M) (hN : Row w 0 an nn (fun i => .int .i32 (N i))) (hNr : ∀ i, i < nn → -2147483648 ≤ N i ∧ N i ≤ 2147483647) :
    Calls Try.prog 4 #[.slice a n c, .int .i64 t, .slice an nn cn] w fun e w' => RetTrue w e w' := by
  cases a with
  | none => exact law4_nil an n c nn cn t X T M N w (by have := hD.row.nil rfl; omega) hn hnn hX hD hN hNr
  | some a0 => exact law4_any a0 an n c nn cn t X T M N w hn hnn hX hD hN hNr

set_option maxHeartbeats 1600000 in
set_option maxRecDepth 100000 in
theorem split_lifted (os : Os) (started : os.Started) (H : Type) (enc : TypeId × Value → H) :
    ReturnsInHanded {} Try.checked os 4 .any (Rows.fnTreapMatchesFirstMaximumSplitSpec.pre6 enc Try.prog Try.f4 Rows.fnTreapMatchesFirstMaximumSplitRow.domain false) (Rows.fnTreapMatchesFirstMaximumSplitSpec.post enc Try.prog Try.f4 false true false false) := by
  refine returnsInHanded_of_change (C := Try.checked) own started (by kernel_rfl) Try.func4
    (ChangeSpec.witness6 (enc := enc) (C := Try.checked) false ⟨#[], #[.slice none 0 0, .int .i64 0, .slice none 0 0], []⟩ 8 (by kernel_rfl) (by kernel_rfl) (by kernel_rfl) (by kernel_rfl)) ?_
  intro W base args ds gs before hval0 hW hcnd _
  have hval : ∀ (j : Nat) t v, Try.f4.params[j]? = some t → args[j]? = some v → Value.okWide Try.prog W .any base t v := hval0
  have hW' := hW
  obtain ⟨p, q, hA0, hV, rfl, hfz, hnd⟩ := hW
  have hA : DataW.TrodAll enc Try.prog W 0 (fun _ => true) true Try.f4.params.toList args.toList ds p := hA0
  rw [Try.params4] at hA hval
  obtain ⟨v0, vs0, d0, ds0, p0, q0, hargs, rfl, rfl, h0, r0⟩ := trodAll_cons hA
  obtain ⟨v1, vs1, d1, ds1, p1, q1, rfl, rfl, rfl, h1, r1⟩ := trodAll_cons r0
  obtain ⟨v2, vs2, d2, ds2, p2, q2, rfl, rfl, rfl, h2, r2⟩ := trodAll_cons r1
  obtain ⟨rfl, rfl, rfl⟩ := trodAll_nil r2
  obtain rfl : args = #[v0, v1, v2] := by cases args; simp_all
  obtain ⟨rfl, rfl⟩ := trodVars_none hV
  obtain ⟨a0, n0, c0, rfl⟩ := okWide_slice Try.underlying51 (hval 0 51 v0 rfl rfl)
  obtain ⟨x1, rfl, _, _, _⟩ := open_int Try.underlying3 (hval 1 3 v1 rfl rfl) h1
  obtain ⟨a2, n2, c2, rfl⟩ := okWide_slice Try.underlying52 (hval 2 52 v2 rfl rfl)
  have lt0 : ∀ x ∈ p0, x.block < W.heap.size := by obtain ⟨m, hm⟩ := h0; exact DataW.trod_lt m _ _ _ hm
  have lt1 : ∀ x ∈ p1, x.block < W.heap.size := by obtain ⟨m, hm⟩ := h1; exact DataW.trod_lt m _ _ _ hm
  have lt2 : ∀ x ∈ p2, x.block < W.heap.size := by obtain ⟨m, hm⟩ := h2; exact DataW.trod_lt m _ _ _ hm
  obtain ⟨X, T, M, hD, hXs, hn⟩ := opened_pieces h0
  obtain ⟨N, hN, hnn, hNr⟩ := opened_nums h2
  clear hA0 hval0
  refine (law4 a0 a2 n0 c0 n2 c2 x1 X T M N W hn hnn hXs hD hN hNr).mono fun e W' ⟨he, bel⟩ => ?_
  subst he
  exact ⟨_, rfl, _, _, _, [], _, [], hW', trodAll_mk1 (shut_bool Try.underlying4 _), (trodAll_cons_mk (Below.trod laidOut (by kernel_rfl) (of_decide_eq_true (by kernel_rfl)) h0 bel lt0) (trodAll_cons_mk (Below.trod laidOut (by kernel_rfl) (of_decide_eq_true (by kernel_rfl)) h1 bel lt1) (trodAll_cons_mk (Below.trod laidOut (by kernel_rfl) (of_decide_eq_true (by kernel_rfl)) h2 bel lt2) trodAll_mk0))), rfl, bel.frame _, fun h => by cases h⟩

theorem split_over : Rows.fnTreapMatchesFirstMaximumSplitRow.holds Try.pinned (OpenSpec.ofChange Rows.fnTreapMatchesFirstMaximumSplitSpec) :=
  OpenClaim.holds_of_wide 4 Try.f4 rfl rfl rfl rfl rfl rfl rfl ⟨rfl, rfl, rfl, rfl, rfl⟩ rfl rfl rfl rfl rfl (by kernel_rfl) Try.func4 (by kernel_rfl)
    (of_decide_eq_true (by kernel_rfl)) (by unfold Func.isWrapper; first | (rw [if_pos (by decide +kernel)]; kernel_rfl) | (rw [if_neg (by decide +kernel)]; exact ⟨rfl, rfl⟩))
    (fun os started H enc _ => split_lifted os started H enc)

/-- THE STATEMENT -/
theorem split_proved : Rows.FnTreapMatchesFirstMaximumSplitSaid := split_over
end Go.Proofs.Qxb6601797a
