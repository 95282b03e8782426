/- Words on the scanner's memory behind an append. No walk here. -/
import Derived.Test.Qxb6601781aNew
import Derived.Deep.RegionLawGrows
import Derived.Deep.DeepCutAuto
import Derived.Deep.QuietTactic
import Derived.BigQuiet
import Derived.WalkSmall
namespace Go.Proofs.Qxb6601781a
open Go.RowKit

theorem sc_cells {w : World} {R : Nat} {tv iv : Value} {hd tk ind fl : Int} (h : w.heap[R]? = some (.cells (scCells tv iv hd tk ind fl) 54 (0, 0))) :
    w.cell? ⟨R, 4, none⟩ = some tv ∧ w.cell? ⟨R, 5, none⟩ = some (.int .i64 hd) ∧ w.cell? ⟨R, 6, none⟩ = some (.int .i64 tk) ∧ w.cell? ⟨R, 8, none⟩ = some (.int .i64 ind) ∧ w.cell? ⟨R, 9, none⟩ = some iv ∧ w.cell? ⟨R, 10, none⟩ = some (.int .i64 fl) ∧ ∀ j, w.frozen? ⟨R, j, none⟩ = false := by
  simp [World.cell?, World.frozen?, h, scCells]

theorem sc_set4 {w : World} {R : Nat} {tv iv : Value} {hd tk ind fl : Int} (h : w.heap[R]? = some (.cells (scCells tv iv hd tk ind fl) 54 (0, 0))) (v : Value) : (w.setCell ⟨R, 4, none⟩ v).heap[R]? = some (.cells (scCells v iv hd tk ind fl) 54 (0, 0)) := by
  simp [World.setCell, Array.getElem?_modify, h, scCells]
theorem sc_set8 {w : World} {R : Nat} {tv iv : Value} {hd tk ind fl : Int} (h : w.heap[R]? = some (.cells (scCells tv iv hd tk ind fl) 54 (0, 0))) (x : Int) : (w.setCell ⟨R, 8, none⟩ (.int .i64 x)).heap[R]? = some (.cells (scCells tv iv hd tk x fl) 54 (0, 0)) := by
  simp [World.setCell, Array.getElem?_modify, h, scCells]
theorem sc_set9 {w : World} {R : Nat} {tv iv : Value} {hd tk ind fl : Int} (h : w.heap[R]? = some (.cells (scCells tv iv hd tk ind fl) 54 (0, 0))) (v : Value) : (w.setCell ⟨R, 9, none⟩ v).heap[R]? = some (.cells (scCells tv v hd tk ind fl) 54 (0, 0)) := by
  simp [World.setCell, Array.getElem?_modify, h, scCells]
theorem grown_set {w w1 : World} {R : Nat} (h : w.grownBy w1 (some R)) (o : Nat) (v : Value) : w.grownBy (w1.setCell ⟨R, o, none⟩ v) (some R) :=
  ⟨h.os, h.tape, h.output, by simpa using h.size, fun i hi hne => by rw [Below.heap_setCell _ _ _ _ (by show i ≠ R; exact fun e => hne (by rw [e]))]; exact h.block i hi hne⟩
theorem grown_some {w w1 : World} (h : w.grownBy w1 none) (R : Nat) : w.grownBy w1 (some R) := ⟨h.os, h.tape, h.output, h.size, fun i hi _ => h.block i hi (by simp)⟩
theorem grown_drew {w : World} (R : Option Nat) : w.grownBy w.drew R := ⟨rfl, rfl, rfl, Nat.le_refl _, fun _ _ _ => rfl⟩

/-- the cells of a list of values, read off a row -/
theorem row_list {w W : World} {lo : Nat} {ai : Option Addr} {ni : Nat} {f : Nat → Value} (hI : Row w lo ai ni f) (hW : ∀ p : Addr, p.block < w.heap.size → W.cell? p = w.cell? p) :
    ∀ b, ai = some b → ∀ j u, ((List.range ni).map f)[j]? = some u → W.cell? (b.add j) = some u := by
  intro b hb j u hj
  obtain ⟨bi, oi, h1, h2⟩ := hI
  have hjn : j < ni := by
    rcases Nat.lt_or_ge j ni with h | h
    · exact h
    · rw [List.getElem?_eq_none (by simpa using h)] at hj; cases hj
  have e2 : u = f j := by simpa [hjn] using hj.symm
  obtain ⟨e, _⟩ := h1 (by omega)
  rw [e] at hb
  cases hb
  rw [e2, add_at, hW _ (World.block_lt_of_cell? _ _ (h2 j hjn))]
  exact h2 j hjn
/-- the value that append has made -/
theorem own_new {w : World} {base n : Nat} {e : TypeId} {size : Nat} {v : Value} {xs : List Value} (h : w.ownsRow base e size v (n + 1) xs) : ∃ g cap cur, v = .slice (some ⟨g, 0, none⟩) (n + 1) cap ∧ base ≤ g ∧ n + 1 ≤ cap ∧ cap ≤ maxLen ∧ w.heap[g]? = some (.cells cur e (0, 0)) ∧ cur.size = cap * size ∧ cur.toList.take ((n + 1) * size) = xs := by
  rcases h.2 with ⟨_, h0⟩ | ⟨g, cap, cur, rfl, hb, hh, hn, hc, hs, ht⟩
  · omega
  · exact ⟨g, cap, cur, rfl, hb, hn, hc, hh, hs, ht⟩

theorem sc_alloc {w w1 : World} {R : Nat} {o x : Obj} (h : w.heap[R]? = some x) (hg : (w.alloc o).drew.grownBy w1 none) : w1.heap[R]? = some x := by
  have hlt : R < w.heap.size := (Array.getElem?_eq_some_iff.1 h).1
  rw [hg.block R (by show R < (w.heap.push o).size; simp; omega) (by simp)]
  show (w.heap.push o)[R]? = _
  rw [Array.getElem?_push, if_neg (by omega)]
  exact h
theorem grown_alloc_drew {w w1 : World} {o : Obj} (hg : (w.alloc o).drew.grownBy w1 none) : w.grownBy w1 none :=
  ((World.grownBy_alloc w o none).trans (grown_drew none)).trans hg
theorem row_of_take {w : World} {g n : Nat} {cur : Array Value} {e : TypeId} {xs : List Value} {f : Nat → Value} (hh : w.heap[g]? = some (.cells cur e (0, 0))) (ht : cur.toList.take n = xs) (hf : ∀ i, i < n → xs[i]? = some (f i)) {lo : Nat} (hl : lo ≤ g) :
    Row w lo (some ⟨g, 0, none⟩) n f := by
  refine ⟨g, 0, fun _ => ⟨rfl, hl⟩, fun i hi => ?_⟩
  have h1 := hf i hi
  rw [← ht, List.getElem?_take_of_lt hi] at h1
  simpa [World.cell?, hh] using h1
theorem snoc_at {n : Nat} {f : Nat → Int} {x : Int} : ∀ i, i < n + 1 → ((List.range n).map (fun i => Value.int .i64 (f i)) ++ [Value.int .i64 x])[i]? = some (.int .i64 (if i < n then f i else x)) := by
  intro i hi
  by_cases h : i < n
  · rw [List.getElem?_append_left (by simpa using h)]
    simp [h]
  · obtain rfl : n = i := by omega
    rw [List.getElem?_append_right (by simp)]
    simp

/-- behind 's.indents = append(s.indents, s.indent)' -/
def AfterInd (w wx : World) (R ni : Nat) (tv : Value) (hd tk ind fl : Int) (I : Nat → Int) : Prop :=
  ∃ g cap, wx.heap[R]? = some (.cells (scCells tv (.slice (some ⟨g, 0, none⟩) (ni + 1) cap) hd tk ind fl) 54 (0, 0)) ∧ w.heap.size ≤ g ∧ Row wx w.heap.size (some ⟨g, 0, none⟩) (ni + 1) (fun i => .int .i64 (if i < ni then I i else ind)) ∧ w.grownBy wx (some R)

end Go.Proofs.Qxb6601781a
