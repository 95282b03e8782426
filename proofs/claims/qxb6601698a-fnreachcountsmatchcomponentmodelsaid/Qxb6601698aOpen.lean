/- From the row's readings of the arguments to 'Row', 'Mat', 'MapAt'. -/
import Derived.Test.Qxb6601698aClone2
import Derived.ProofKit
import Derived.Deep.Matrix
import Derived.Deep.Strs
namespace Go.Proofs.Qxb6601698a
open Go.RowKit Go.Maps Go.WideShapes Go.Deep Go.ChangeShapes

variable {H : Type} {enc : TypeId × Value → H} {W : World} {d : DataW H} {p : List MemPlace}

theorem cells3 : Try.prog.cellsOf 3 = 1 := by kernel_rfl
theorem cells9 : Try.prog.cellsOf 9 = 1 := by kernel_rfl
theorem cells25 : Try.prog.cellsOf 25 = 1 := by kernel_rfl

/-- an address at which a cell lies has no spot -/
theorem row_of_add {a : Addr} {n : Nat} {f : Nat → Value} (h : ∀ i, i < n → W.cell? (a.add i) = some (f i)) : Row W 0 (some a) n f := by
  obtain ⟨b, off, spot⟩ := a
  refine ⟨b, off, fun hn => ?_, fun i hi => ?_⟩
  · have h0 := h 0 hn
    have hs : spot = none := by simpa [Addr.add] using World.cell?_spot h0
    subst hs
    exact ⟨rfl, Nat.zero_le _⟩
  · have h0 := h 0 (by omega)
    have hs : spot = none := by simpa [Addr.add] using World.cell?_spot h0
    subst hs
    have h1 := h i hi
    rwa [add_plain] at h1

theorem opened_strs {a : Option Addr} {n cap : Nat} (h : DataW.Trod enc Try.prog W 0 (fun _ => true) true 23 (.slice a n cap) d p) :
    ∃ S : Nat → ByteArray, Row W 0 a n (fun i => .string (S i)) ∧ (∀ i, i < n → (S i).size ≤ maxLen) ∧ n ≤ maxLen := by
  obtain ⟨fuel, hf⟩ := h
  rcases open_strs Try.underlying23 Try.underlying9 cells9 hf with ⟨hcs, _⟩ | ⟨a', len, cap', m, S, hcs, _, hl, hm, hmm, _, hc⟩
  · simp [Value.cells] at hcs
    obtain ⟨rfl, rfl, rfl⟩ := hcs
    exact ⟨fun _ => ByteArray.empty, Row.zero _ _ _ _, fun i hi => by omega, Nat.zero_le _⟩
  · simp [Value.cells] at hcs
    obtain ⟨rfl, rfl, rfl⟩ := hcs
    simp only [if_true] at hmm
    subst hmm
    exact ⟨S, row_of_add (fun i hi => (hc i (by omega)).1), fun i hi => (hc i (by omega)).2, by omega⟩

theorem opened_ints {a : Option Addr} {n cap : Nat} (h : DataW.Trod enc Try.prog W 0 (fun _ => true) true 25 (.slice a n cap) d p) :
    ∃ Z : Nat → Int, Row W 0 a n (fun i => .int .i64 (Z i)) ∧ n ≤ maxLen := by
  obtain ⟨fuel, hf⟩ := h
  rcases open_ints Try.underlying25 Try.underlying3 cells3 hf with ⟨hcs, _⟩ | ⟨a', len, cap', zs, hcs, _, hl, hm, hz, _, hc, _⟩
  · simp [Value.cells] at hcs
    obtain ⟨rfl, rfl, rfl⟩ := hcs
    exact ⟨fun _ => 0, Row.zero _ _ _ _, Nat.zero_le _⟩
  · simp [Value.cells] at hcs
    obtain ⟨rfl, rfl, rfl⟩ := hcs
    simp only [if_true] at hz
    exact ⟨fun i => zs.getD i 0, row_of_add (fun i hi => hc i (by omega)), by omega⟩

theorem opened_mat {a : Option Addr} {n cap : Nat} (h : DataW.Trod enc Try.prog W 0 (fun _ => true) true 24 (.slice a n cap) d p) :
    ∃ (L : Nat → Nat) (Z : Nat → Nat → Int), Mat W 0 a n L Z ∧ (∀ i, i < n → L i ≤ 9223372036854775807) ∧ n ≤ maxLen := by
  obtain ⟨fuel, hf⟩ := h
  rcases open_int_rows Try.underlying24 Try.underlying25 Try.underlying3 cells25 cells3 hf with ⟨hcs, _⟩ | ⟨a', len, cap', A, L, C, Z, hcs, _, hl, hm, _, hc⟩
  · simp [Value.cells] at hcs
    obtain ⟨rfl, rfl, rfl⟩ := hcs
    exact ⟨fun _ => 0, fun _ _ => 0, ⟨fun _ => none, fun _ => 0, Row.zero _ _ _ _, fun i hi => by omega⟩, fun i hi => by omega, Nat.zero_le _⟩
  · simp [Value.cells] at hcs
    obtain ⟨rfl, rfl, rfl⟩ := hcs
    refine ⟨L, fun r c => (Z r).getD c 0, ⟨A, C, row_of_add (fun i hi => (hc i (by omega)).1), fun i hi => ?_⟩, fun i hi => ?_, by omega⟩
    · obtain ⟨_, h2, h3, h4, _, h6, h7⟩ := hc i (by omega)
      cases hA : A i with
      | none =>
        have : L i = 0 := by have := h6 hA; omega
        rw [this]
        exact Row.zero _ _ _ _
      | some a2 => exact row_of_add (fun j hj => (h7 a2 hA).2 j (by omega))
    · obtain ⟨_, h2, h3, _⟩ := hc i (by omega)
      unfold maxLen at h3
      omega

theorem opened_map {r : Option Nat} (h : DataW.Trod enc Try.prog W 0 (fun _ => true) true 22 (.map r) d p) : ∃ D : DataW Unit, MapAt W 0 (.map r) D ∧ Maps.size D ≤ maxLen := by
  obtain ⟨fuel, hf⟩ := h
  rcases WideElems.open_map Try.underlying22 hf with ⟨hcs, _⟩ | ⟨b, es, clock, n, _, hcs, hb, _, F, _⟩
  · simp [Value.cells] at hcs
    subst hcs
    exact ⟨.map [], .inl ⟨rfl, rfl⟩, Nat.zero_le _⟩
  · simp [Value.cells] at hcs
    subst hcs
    have F1 : WideElems.Fit Try.prog 9 (plainElem (H := Unit) Try.prog 3) es clock := by
      refine ⟨F.size, F.stamped, fun x hx => ?_⟩
      obtain ⟨y, hy⟩ := F.reads x hx
      have hk := WideElems.rd_key hy
      obtain ⟨z, hz, _⟩ := WideElems.rd_val hy
      obtain ⟨v, hv, _, hw⟩ := WideElems.elemAt_int Try.underlying3 hz
      exact ⟨(y.1, .lit (.int .i64 v)), by simp [WideElems.rd, hk, hv, plainElem_int Try.underlying3 hw]⟩
    exact ⟨_, .inr ⟨b, es.size, rfl, Nat.zero_le _, es, clock, hb, F1, Nat.le_refl _, rfl⟩, by simpa [Maps.size, length_sorted] using F.size⟩
end Go.Proofs.Qxb6601698a
