/- THE STATEMENT 'Rows.FnRollPushesColumnAndPlacesTokenSaid', PROVED. -/
import Derived.Test.Qxb6601781aRows
import Derived.Test.Qxb6601781aLaw
import Derived.Test.Qxb6601781aOpen
import Derived.OpenShut
import Derived.ChangeOld
namespace Go.Proofs.Qxb6601781a
open Go.ChangeShapes Go.WideShapes Go.ChangeAt Go.RowKit

theorem own : ownKnob Try.prog.godebug = none := by kernel_rfl
theorem laidOut : laidOutB Try.prog = true := by kernel_rfl

set_option maxHeartbeats 1600000 in
set_option maxRecDepth 100000 in
theorem roll_lifted (os : Os) (started : os.Started) (H : Type) (enc : TypeId × Value → H) :
    ReturnsInHanded {} Try.checked os 5 .any (Rows.fnRollPushesColumnAndPlacesTokenSpec.pre6 enc Try.prog Try.f5 Rows.fnRollPushesColumnAndPlacesTokenRow.domain false) (Rows.fnRollPushesColumnAndPlacesTokenSpec.post enc Try.prog Try.f5 false true false false) := by
  refine returnsInHanded_of_change (C := Try.checked) own started (by kernel_rfl) Try.func5
    (ChangeSpec.witness6 (enc := enc) (C := Try.checked) false ⟨#[], #[.int .i64 0, .int .i64 0, .slice none 0 0, .int .i64 0, .int .i64 0, .slice none 0 0, .slice none 0 0, .slice none 0 0, .int .i64 0, .int .i64 0, .int .u8 0, .int .i64 0], []⟩ 8 (by kernel_rfl) (by kernel_rfl) (by kernel_rfl) (by kernel_rfl)) ?_
  intro W base args ds gs before hval0 hW hcnd _
  have hval : ∀ (j : Nat) t v, Try.f5.params[j]? = some t → args[j]? = some v → Value.okWide Try.prog W .any base t v := hval0
  have hW' := hW
  obtain ⟨p, q, hA0, hV, rfl, hfz, hnd⟩ := hW
  have hA : DataW.TrodAll enc Try.prog W 0 (fun _ => true) true Try.f5.params.toList args.toList ds p := hA0
  rw [Try.params5] at hA hval
  obtain ⟨v0, vs0, d0, ds0, p0, q0, hargs, rfl, rfl, h0, r0⟩ := trodAll_cons hA
  obtain ⟨v1, vs1, d1, ds1, p1, q1, rfl, rfl, rfl, h1, r1⟩ := trodAll_cons r0
  obtain ⟨v2, vs2, d2, ds2, p2, q2, rfl, rfl, rfl, h2, r2⟩ := trodAll_cons r1
  obtain ⟨v3, vs3, d3, ds3, p3, q3, rfl, rfl, rfl, h3, r3⟩ := trodAll_cons r2
  obtain ⟨v4, vs4, d4, ds4, p4, q4, rfl, rfl, rfl, h4, r4⟩ := trodAll_cons r3
  obtain ⟨v5, vs5, d5, ds5, p5, q5, rfl, rfl, rfl, h5, r5⟩ := trodAll_cons r4
  obtain ⟨v6, vs6, d6, ds6, p6, q6, rfl, rfl, rfl, h6, r6⟩ := trodAll_cons r5
  obtain ⟨v7, vs7, d7, ds7, p7, q7, rfl, rfl, rfl, h7, r7⟩ := trodAll_cons r6
  obtain ⟨v8, vs8, d8, ds8, p8, q8, rfl, rfl, rfl, h8, r8⟩ := trodAll_cons r7
  obtain ⟨v9, vs9, d9, ds9, p9, q9, rfl, rfl, rfl, h9, r9⟩ := trodAll_cons r8
  obtain ⟨v10, vs10, d10, ds10, p10, q10, rfl, rfl, rfl, h10, r10⟩ := trodAll_cons r9
  obtain ⟨v11, vs11, d11, ds11, p11, q11, rfl, rfl, rfl, h11, r11⟩ := trodAll_cons r10
  obtain ⟨rfl, rfl, rfl⟩ := trodAll_nil r11
  obtain rfl : args = #[v0, v1, v2, v3, v4, v5, v6, v7, v8, v9, v10, v11] := by cases args; simp_all
  obtain ⟨rfl, rfl⟩ := trodVars_none hV
  obtain ⟨x0, rfl, _, _, _⟩ := open_int Try.underlying3 (hval 0 3 v0 rfl rfl) h0
  obtain ⟨x1, rfl, _, _, _⟩ := open_int Try.underlying3 (hval 1 3 v1 rfl rfl) h1
  obtain ⟨a2, n2, c2, rfl⟩ := okWide_slice Try.underlying29 (hval 2 29 v2 rfl rfl)
  obtain ⟨x3, rfl, _, _, wf3⟩ := open_int Try.underlying3 (hval 3 3 v3 rfl rfl) h3
  obtain ⟨x4, rfl, _, _, wf4⟩ := open_int Try.underlying3 (hval 4 3 v4 rfl rfl) h4
  obtain ⟨a5, n5, c5, rfl⟩ := okWide_slice Try.underlying22 (hval 5 22 v5 rfl rfl)
  obtain ⟨a6, n6, c6, rfl⟩ := okWide_slice Try.underlying29 (hval 6 29 v6 rfl rfl)
  obtain ⟨a7, n7, c7, rfl⟩ := okWide_slice Try.underlying30 (hval 7 30 v7 rfl rfl)
  obtain ⟨x8, rfl, _, _, _⟩ := open_int Try.underlying3 (hval 8 3 v8 rfl rfl) h8
  obtain ⟨x9, rfl, _, _, wf9⟩ := open_int Try.underlying3 (hval 9 3 v9 rfl rfl) h9
  obtain ⟨x10, rfl, _, _, _⟩ := open_int Try.underlying5 (hval 10 5 v10 rfl rfl) h10
  obtain ⟨x11, rfl, _, _, _⟩ := open_int Try.underlying3 (hval 11 3 v11 rfl rfl) h11
  have lt0 : ∀ x ∈ p0, x.block < W.heap.size := by obtain ⟨m, hm⟩ := h0; exact DataW.trod_lt m _ _ _ hm
  have lt1 : ∀ x ∈ p1, x.block < W.heap.size := by obtain ⟨m, hm⟩ := h1; exact DataW.trod_lt m _ _ _ hm
  have lt2 : ∀ x ∈ p2, x.block < W.heap.size := by obtain ⟨m, hm⟩ := h2; exact DataW.trod_lt m _ _ _ hm
  have lt3 : ∀ x ∈ p3, x.block < W.heap.size := by obtain ⟨m, hm⟩ := h3; exact DataW.trod_lt m _ _ _ hm
  have lt4 : ∀ x ∈ p4, x.block < W.heap.size := by obtain ⟨m, hm⟩ := h4; exact DataW.trod_lt m _ _ _ hm
  have lt5 : ∀ x ∈ p5, x.block < W.heap.size := by obtain ⟨m, hm⟩ := h5; exact DataW.trod_lt m _ _ _ hm
  have lt6 : ∀ x ∈ p6, x.block < W.heap.size := by obtain ⟨m, hm⟩ := h6; exact DataW.trod_lt m _ _ _ hm
  have lt7 : ∀ x ∈ p7, x.block < W.heap.size := by obtain ⟨m, hm⟩ := h7; exact DataW.trod_lt m _ _ _ hm
  have lt8 : ∀ x ∈ p8, x.block < W.heap.size := by obtain ⟨m, hm⟩ := h8; exact DataW.trod_lt m _ _ _ hm
  have lt9 : ∀ x ∈ p9, x.block < W.heap.size := by obtain ⟨m, hm⟩ := h9; exact DataW.trod_lt m _ _ _ hm
  have lt10 : ∀ x ∈ p10, x.block < W.heap.size := by obtain ⟨m, hm⟩ := h10; exact DataW.trod_lt m _ _ _ hm
  have lt11 : ∀ x ∈ p11, x.block < W.heap.size := by obtain ⟨m, hm⟩ := h11; exact DataW.trod_lt m _ _ _ hm
  obtain ⟨I, hI, hn2⟩ := opened_ints h2
  obtain ⟨K, hK, hn5⟩ := opened_bytes h5
  obtain ⟨L, hL, hn6⟩ := opened_ints h6
  obtain ⟨S, hS, hSs, hn7⟩ := opened_strs h7
  have rg : ∀ x : Int, (Lit.int .i64 x).wf = true → x < 9223372036854775808 ∧ -9223372036854775808 ≤ x := fun x h => by
    simp [Lit.wf, IntKind.min, IntKind.max, IntKind.signed, IntKind.bits] at h
    omega
  clear hA0 hval0
  refine (law_any x0 x1 x3 x4 x8 x9 x10 x11 a2 a5 a6 a7 n2 n5 n6 n7 c2 c5 c6 c7 I K L S W hn2 hn5 hn6 hn7 hSs (rg _ wf3).1 (rg _ wf3).2 (rg _ wf4).1 (rg _ wf4).2 (rg _ wf9).1 (rg _ wf9).2 hI hK hL hS).mono fun e W' ⟨he, bel⟩ => ?_
  subst he
  exact ⟨_, rfl, _, _, _, [], _, [], hW', trodAll_mk1 (shut_bool Try.underlying4 _), (trodAll_cons_mk (Below.trod laidOut (by kernel_rfl) (of_decide_eq_true (by kernel_rfl)) h0 bel lt0) (trodAll_cons_mk (Below.trod laidOut (by kernel_rfl) (of_decide_eq_true (by kernel_rfl)) h1 bel lt1) (trodAll_cons_mk (Below.trod laidOut (by kernel_rfl) (of_decide_eq_true (by kernel_rfl)) h2 bel lt2) (trodAll_cons_mk (Below.trod laidOut (by kernel_rfl) (of_decide_eq_true (by kernel_rfl)) h3 bel lt3) (trodAll_cons_mk (Below.trod laidOut (by kernel_rfl) (of_decide_eq_true (by kernel_rfl)) h4 bel lt4) (trodAll_cons_mk (Below.trod laidOut (by kernel_rfl) (of_decide_eq_true (by kernel_rfl)) h5 bel lt5) (trodAll_cons_mk (Below.trod laidOut (by kernel_rfl) (of_decide_eq_true (by kernel_rfl)) h6 bel lt6) (trodAll_cons_mk (Below.trod laidOut (by kernel_rfl) (of_decide_eq_true (by kernel_rfl)) h7 bel lt7) (trodAll_cons_mk (Below.trod laidOut (by kernel_rfl) (of_decide_eq_true (by kernel_rfl)) h8 bel lt8) (trodAll_cons_mk (Below.trod laidOut (by kernel_rfl) (of_decide_eq_true (by kernel_rfl)) h9 bel lt9) (trodAll_cons_mk (Below.trod laidOut (by kernel_rfl) (of_decide_eq_true (by kernel_rfl)) h10 bel lt10) (trodAll_cons_mk (Below.trod laidOut (by kernel_rfl) (of_decide_eq_true (by kernel_rfl)) h11 bel lt11) trodAll_mk0)))))))))))), rfl, bel.frame _, fun h => by cases h⟩

theorem roll_over : Rows.fnRollPushesColumnAndPlacesTokenRow.holds Try.pinned (OpenSpec.ofChange Rows.fnRollPushesColumnAndPlacesTokenSpec) :=
  OpenClaim.holds_of_wide 5 Try.f5 rfl rfl rfl rfl rfl rfl rfl ⟨rfl, rfl, rfl, rfl, rfl⟩ rfl rfl rfl rfl rfl (by kernel_rfl) Try.func5 (by kernel_rfl)
    (of_decide_eq_true (by kernel_rfl)) (by unfold Func.isWrapper; first | (rw [if_pos (by decide +kernel)]; kernel_rfl) | (rw [if_neg (by decide +kernel)]; exact ⟨rfl, rfl⟩))
    (fun os started H enc _ => roll_lifted os started H enc)

/-- THE STATEMENT -/
theorem roll_proved : Rows.FnRollPushesColumnAndPlacesTokenSaid := roll_over
end Go.Proofs.Qxb6601781a
