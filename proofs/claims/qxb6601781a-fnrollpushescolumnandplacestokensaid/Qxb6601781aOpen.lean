/- From the row's readings of the arguments to 'Row'. -/
import Derived.Test.Qxb6601781aBase
import Derived.Test.Qxb6601781aClone
import Derived.ProofKit
import Derived.Deep.Matrix
import Derived.Deep.Strs
namespace Go.Proofs.Qxb6601781a
open Go.RowKit Go.WideShapes Go.Deep Go.ChangeShapes

variable {H : Type} {enc : TypeId × Value → H} {W : World} {d : DataW H} {p : List MemPlace}

theorem cells3 : Try.prog.cellsOf 3 = 1 := by kernel_rfl
theorem cells5 : Try.prog.cellsOf 5 = 1 := by kernel_rfl
theorem cells9 : Try.prog.cellsOf 9 = 1 := by kernel_rfl

/-- an address at which a cell lies has no spot -/
theorem row_of_add {a : Addr} {n : Nat} {f : Nat → Value} (h : ∀ i, i < n → W.cell? (a.add i) = some (f i)) : Row W 0 (some a) n f := by
  obtain ⟨b, off, spot⟩ := a
  refine ⟨b, off, fun hn => ?_, fun i hi => ?_⟩
  · have h0 := h 0 hn
    have hs : spot = none := by simpa [Addr.add] using World.cell?_spot h0
    subst hs
    exact ⟨rfl, Nat.zero_le _⟩
  · have h0 := h 0 (by omega)
    have hs : spot = none := by simpa [Addr.add] using World.cell?_spot h0
    subst hs
    have h1 := h i hi
    rwa [add_at] at h1

theorem opened_strs {a : Option Addr} {n cap : Nat} (h : DataW.Trod enc Try.prog W 0 (fun _ => true) true 30 (.slice a n cap) d p) :
    ∃ S : Nat → ByteArray, Row W 0 a n (fun i => .string (S i)) ∧ (∀ i, i < n → (S i).size ≤ maxLen) ∧ n ≤ maxLen := by
  obtain ⟨fuel, hf⟩ := h
  rcases open_strs Try.underlying30 Try.underlying9 cells9 hf with ⟨hcs, _⟩ | ⟨a', len, cap', m, S, hcs, _, hl, hm, hmm, _, hc⟩
  · simp [Value.cells] at hcs
    obtain ⟨rfl, rfl, rfl⟩ := hcs
    exact ⟨fun _ => ByteArray.empty, Row.zero _ _ _ _, fun i hi => by omega, Nat.zero_le _⟩
  · simp [Value.cells] at hcs
    obtain ⟨rfl, rfl, rfl⟩ := hcs
    simp only [if_true] at hmm
    subst hmm
    exact ⟨S, row_of_add (fun i hi => (hc i (by omega)).1), fun i hi => (hc i (by omega)).2, by omega⟩

theorem opened_ints {a : Option Addr} {n cap : Nat} (h : DataW.Trod enc Try.prog W 0 (fun _ => true) true 29 (.slice a n cap) d p) :
    ∃ Z : Nat → Int, Row W 0 a n (fun i => .int .i64 (Z i)) ∧ n ≤ maxLen := by
  obtain ⟨fuel, hf⟩ := h
  rcases open_ints Try.underlying29 Try.underlying3 cells3 hf with ⟨hcs, _⟩ | ⟨a', len, cap', zs, hcs, _, hl, hm, hz, _, hc, _⟩
  · simp [Value.cells] at hcs
    obtain ⟨rfl, rfl, rfl⟩ := hcs
    exact ⟨fun _ => 0, Row.zero _ _ _ _, Nat.zero_le _⟩
  · simp [Value.cells] at hcs
    obtain ⟨rfl, rfl, rfl⟩ := hcs
    simp only [if_true] at hz
    exact ⟨fun i => zs.getD i 0, row_of_add (fun i hi => hc i (by omega)), by omega⟩

theorem opened_bytes {a : Option Addr} {n cap : Nat} (h : DataW.Trod enc Try.prog W 0 (fun _ => true) true 22 (.slice a n cap) d p) :
    ∃ Z : Nat → Int, Row W 0 a n (fun i => .int .u8 (Z i)) ∧ n ≤ maxLen := by
  obtain ⟨fuel, hf⟩ := h
  rcases open_ints Try.underlying22 Try.underlying5 cells5 hf with ⟨hcs, _⟩ | ⟨a', len, cap', zs, hcs, _, hl, hm, hz, _, hc, _⟩
  · simp [Value.cells] at hcs
    obtain ⟨rfl, rfl, rfl⟩ := hcs
    exact ⟨fun _ => 0, Row.zero _ _ _ _, Nat.zero_le _⟩
  · simp [Value.cells] at hcs
    obtain ⟨rfl, rfl, rfl⟩ := hcs
    simp only [if_true] at hz
    exact ⟨fun i => zs.getD i 0, row_of_add (fun i hi => hc i (by omega)), by omega⟩
end Go.Proofs.Qxb6601781a
