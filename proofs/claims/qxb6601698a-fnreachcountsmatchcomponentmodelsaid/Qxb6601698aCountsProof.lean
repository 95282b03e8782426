/- THE STATEMENT 'Rows.FnReachCountsMatchComponentModelSaid', PROVED. -/
import Derived.Test.Qxb6601698aRows
import Derived.Test.Qxb6601698aCountsWalk
import Derived.Test.Qxb6601698aOpen
import Derived.OpenShut
import Derived.ChangeOld
namespace Go.Proofs.Qxb6601698a
open Go.ChangeShapes Go.WideShapes Go.ChangeAt Go.RowKit

theorem own3 : ownKnob Try.prog.godebug = none := by kernel_rfl
theorem laidOut3 : laidOutB Try.prog = true := by kernel_rfl

set_option maxHeartbeats 1600000 in
set_option maxRecDepth 100000 in
theorem counts_lifted (os : Os) (started : os.Started) (H : Type) (enc : TypeId × Value → H) :
    ReturnsInHanded {} Try.checked os 3 .any (Rows.fnReachCountsMatchComponentModelSpec.pre6 enc Try.prog Try.f3 Rows.fnReachCountsMatchComponentModelRow.domain false) (Rows.fnReachCountsMatchComponentModelSpec.post enc Try.prog Try.f3 false true false false) := by
  refine returnsInHanded_of_change (C := Try.checked) own3 started (by kernel_rfl) Try.func3
    (ChangeSpec.witness6 (enc := enc) (C := Try.checked) false ⟨#[], #[.map none, .slice none 0 0, .slice none 0 0, .slice none 0 0, .slice none 0 0, .slice none 0 0, .slice none 0 0], []⟩ 8 (by kernel_rfl) (by kernel_rfl) (by kernel_rfl) (by kernel_rfl)) ?_
  intro W base args ds gs before hval0 hW hcnd _
  have hval : ∀ (j : Nat) t v, Try.f3.params[j]? = some t → args[j]? = some v → Value.okWide Try.prog W .any base t v := hval0
  have hW' := hW
  obtain ⟨p, q, hA0, hV, rfl, hfz, hnd⟩ := hW
  have hA : DataW.TrodAll enc Try.prog W 0 (fun _ => true) true Try.f3.params.toList args.toList ds p := hA0
  rw [Try.params3] at hA hval
  obtain ⟨v0, vs0, d0, ds0, p0, q0, hargs, rfl, rfl, h0, r0⟩ := trodAll_cons hA
  obtain ⟨v1, vs1, d1, ds1, p1, q1, rfl, rfl, rfl, h1, r1⟩ := trodAll_cons r0
  obtain ⟨v2, vs2, d2, ds2, p2, q2, rfl, rfl, rfl, h2, r2⟩ := trodAll_cons r1
  obtain ⟨v3, vs3, d3, ds3, p3, q3, rfl, rfl, rfl, h3, r3⟩ := trodAll_cons r2
  obtain ⟨v4, vs4, d4, ds4, p4, q4, rfl, rfl, rfl, h4, r4⟩ := trodAll_cons r3
  obtain ⟨v5, vs5, d5, ds5, p5, q5, rfl, rfl, rfl, h5, r5⟩ := trodAll_cons r4
  obtain ⟨v6, vs6, d6, ds6, p6, q6, rfl, rfl, rfl, h6, r6⟩ := trodAll_cons r5
  obtain ⟨rfl, rfl, rfl⟩ := trodAll_nil r6
  obtain rfl : args = #[v0, v1, v2, v3, v4, v5, v6] := by cases args; simp_all
  obtain ⟨rfl, rfl⟩ := trodVars_none hV
  obtain ⟨r, rfl⟩ := okWide_map Try.underlying22 (hval 0 22 v0 rfl rfl)
  obtain ⟨a1, n1, c1, rfl⟩ := okWide_slice Try.underlying23 (hval 1 23 v1 rfl rfl)
  obtain ⟨a2, n2, c2, rfl⟩ := okWide_slice Try.underlying24 (hval 2 24 v2 rfl rfl)
  obtain ⟨a3, n3, c3, rfl⟩ := okWide_slice Try.underlying24 (hval 3 24 v3 rfl rfl)
  obtain ⟨a4, n4, c4, rfl⟩ := okWide_slice Try.underlying24 (hval 4 24 v4 rfl rfl)
  obtain ⟨a5, n5, c5, rfl⟩ := okWide_slice Try.underlying25 (hval 5 25 v5 rfl rfl)
  obtain ⟨a6, n6, c6, rfl⟩ := okWide_slice Try.underlying23 (hval 6 23 v6 rfl rfl)
  have lt0 : ∀ x ∈ p0, x.block < W.heap.size := by obtain ⟨m, hm⟩ := h0; exact DataW.trod_lt m _ _ _ hm
  have lt1 : ∀ x ∈ p1, x.block < W.heap.size := by obtain ⟨m, hm⟩ := h1; exact DataW.trod_lt m _ _ _ hm
  have lt2 : ∀ x ∈ p2, x.block < W.heap.size := by obtain ⟨m, hm⟩ := h2; exact DataW.trod_lt m _ _ _ hm
  have lt3 : ∀ x ∈ p3, x.block < W.heap.size := by obtain ⟨m, hm⟩ := h3; exact DataW.trod_lt m _ _ _ hm
  have lt4 : ∀ x ∈ p4, x.block < W.heap.size := by obtain ⟨m, hm⟩ := h4; exact DataW.trod_lt m _ _ _ hm
  have lt5 : ∀ x ∈ p5, x.block < W.heap.size := by obtain ⟨m, hm⟩ := h5; exact DataW.trod_lt m _ _ _ hm
  have lt6 : ∀ x ∈ p6, x.block < W.heap.size := by obtain ⟨m, hm⟩ := h6; exact DataW.trod_lt m _ _ _ hm
  obtain ⟨D, hM, hsz⟩ := opened_map h0
  obtain ⟨S, hN, hS, hn1⟩ := opened_strs h1
  obtain ⟨L2, Z2, hM2, hL2, hn2⟩ := opened_mat h2
  obtain ⟨L3, Z3, hM3, hL3, hn3⟩ := opened_mat h3
  obtain ⟨L4, Z4, hM4, hL4, hn4⟩ := opened_mat h4
  obtain ⟨Z5, hC, hn5⟩ := opened_ints h5
  obtain ⟨G, hGr, hG, hn6⟩ := opened_strs h6
  clear hA0 hval0
  refine (counts_any r D a1 a2 a3 a4 a5 a6 n1 n2 n3 n4 n5 n6 c1 c2 c3 c4 c5 c6 S L2 L3 L4 Z2 Z3 Z4 Z5 G W hsz hn1 hn2 hn3 hn4 hn5 hn6 hL2 hL3 hL4 hS hG hM hN hM2 hM3 hM4 hC hGr).mono fun e W' ⟨he, bel⟩ => ?_
  subst he
  exact ⟨_, rfl, _, _, _, [], _, [], hW', trodAll_mk1 (shut_bool Try.underlying4 _),
    (trodAll_cons_mk (Below.trod laidOut3 (by kernel_rfl) (of_decide_eq_true (by kernel_rfl)) h0 bel lt0) (trodAll_cons_mk (Below.trod laidOut3 (by kernel_rfl) (of_decide_eq_true (by kernel_rfl)) h1 bel lt1)
      (trodAll_cons_mk (Below.trod laidOut3 (by kernel_rfl) (of_decide_eq_true (by kernel_rfl)) h2 bel lt2) (trodAll_cons_mk (Below.trod laidOut3 (by kernel_rfl) (of_decide_eq_true (by kernel_rfl)) h3 bel lt3)
        (trodAll_cons_mk (Below.trod laidOut3 (by kernel_rfl) (of_decide_eq_true (by kernel_rfl)) h4 bel lt4) (trodAll_cons_mk (Below.trod laidOut3 (by kernel_rfl) (of_decide_eq_true (by kernel_rfl)) h5 bel lt5)
          (trodAll_cons_mk (Below.trod laidOut3 (by kernel_rfl) (of_decide_eq_true (by kernel_rfl)) h6 bel lt6) trodAll_mk0))))))), rfl, bel.frame _, fun h => by cases h⟩

theorem counts_over : Rows.fnReachCountsMatchComponentModelRow.holds Try.pinned (OpenSpec.ofChange Rows.fnReachCountsMatchComponentModelSpec) :=
  OpenClaim.holds_of_wide 3 Try.f3 rfl rfl rfl rfl rfl rfl rfl ⟨rfl, rfl, rfl, rfl, rfl⟩ rfl rfl rfl rfl rfl (by kernel_rfl) Try.func3 (by kernel_rfl)
    (of_decide_eq_true (by kernel_rfl)) (by unfold Func.isWrapper; first | (rw [if_pos (by decide +kernel)]; kernel_rfl) | (rw [if_neg (by decide +kernel)]; exact ⟨rfl, rfl⟩))
    (fun os started H enc _ => counts_lifted os started H enc)

/-- THE STATEMENT -/
theorem counts_proved : Rows.FnReachCountsMatchComponentModelSaid := counts_over
end Go.Proofs.Qxb6601698a
