/- Plain words on memory: a slice's cells ('Row'), a slice of slices of ints ('Mat'). No walk here. -/
import Derived.Test.Qxb6601698aChecked
import Derived.WalkKit
import Derived.Deep.OwnRows
namespace Go.Proofs.Qxb6601698a
open Go.RowKit

theorem Try.info3 : (Try.prog.info? 3).map (fun i => (i.zero, i.size, i.bytes)) = some (some (.int .i64 0), 1, 8) := by kernel_rfl
theorem Try.info4 : (Try.prog.info? 4).map (fun i => (i.zero, i.size, i.bytes)) = some (some (.bool false), 1, 1) := by kernel_rfl
theorem Try.info9 : (Try.prog.info? 9).map (fun i => (i.zero, i.size, i.bytes)) = some (some (.string ByteArray.empty), 1, 16) := by kernel_rfl
theorem Try.info25 : (Try.prog.info? 25).map (fun i => (i.zero, i.size, i.bytes)) = some (some (.slice none 0 0), 1, 24) := by kernel_rfl

theorem ret_int {k : IntKind} {a b : Int} (h : a = b) : Ending.returned (.int k a) = .returned (.int k b) := by rw [h]

/-- n cells 'f i' lie at the address a, in a block from lo on. -/
def Row (w : World) (lo : Nat) (a : Option Addr) (n : Nat) (f : Nat → Value) : Prop :=
  ∃ b off, (0 < n → a = some ⟨b, off, none⟩ ∧ lo ≤ b) ∧ ∀ i, i < n → w.cell? ⟨b, off + i, none⟩ = some (f i)

theorem Row.below {w w' : World} {lo : Nat} {a : Option Addr} {n : Nat} {f : Nat → Value} (h : Row w lo a n f) {B : Nat} (hB : w.heap.size ≤ B) (hb : Below B w w') : Row w' lo a n f := by
  obtain ⟨b, off, h1, h2⟩ := h
  refine ⟨b, off, h1, fun i hi => ?_⟩
  have h3 := h2 i hi
  have hlt := World.block_lt_of_cell? _ _ h3
  rw [hb.cell (p := ⟨b, off + i, none⟩) (by show b < B; exact Nat.lt_of_lt_of_le hlt hB)]
  exact h3
theorem Row.drew {w : World} {lo : Nat} {a : Option Addr} {n : Nat} {f : Nat → Value} (h : Row w lo a n f) : Row w.drew lo a n f := h
theorem Row.mono {w : World} {lo lo' : Nat} {a : Option Addr} {n : Nat} {f : Nat → Value} (h : Row w lo a n f) (hl : lo' ≤ lo) : Row w lo' a n f := by
  obtain ⟨b, off, h1, h2⟩ := h
  exact ⟨b, off, fun h => ⟨(h1 h).1, Nat.le_trans hl (h1 h).2⟩, h2⟩
/-- A store into a block below lo. -/
theorem Row.set {w : World} {lo : Nat} {a : Option Addr} {n : Nat} {f : Nat → Value} (h : Row w lo a n f) {p : Addr} (hp : p.block < lo) (v : Value) : Row (w.setCell p v) lo a n f := by
  obtain ⟨b, off, h1, h2⟩ := h
  refine ⟨b, off, h1, fun i hi => ?_⟩
  rw [World.cell?_setCell_other _ _ _ _ (fun e => by have := congrArg Addr.block e; have h3 := (h1 (by omega)).2; simp at this; omega)]
  exact h2 i hi
/-- A step that turned one block below lo alone, and made new ones. -/
theorem Row.grown {w w' : World} {lo : Nat} {a : Option Addr} {n : Nat} {f : Nat → Value} (h : Row w lo a n f) {row : Option Nat} (hg : w.grownBy w' row) (hr : ∀ k, row = some k → k < lo ∨ w.heap.size ≤ k) : Row w' lo a n f := by
  obtain ⟨b, off, h1, h2⟩ := h
  refine ⟨b, off, h1, fun i hi => ?_⟩
  have hlt : b < w.heap.size := World.block_lt_of_cell? _ _ (h2 i hi)
  have h3 := (h1 (by omega)).2
  have : w'.heap[b]? = w.heap[b]? := hg.block b hlt (fun e => by rcases hr b e.symm with h | h <;> omega)
  rw [World.cell?_of_block (w := w) (w' := w') (a := ⟨b, off + i, none⟩) this]
  exact h2 i hi
theorem Row.alloc {w : World} {lo : Nat} {a : Option Addr} {n : Nat} {f : Nat → Value} (h : Row w lo a n f) (o : Obj) : Row (w.alloc o) lo a n f :=
  h.grown (World.grownBy_alloc w o none) (by simp)
theorem Row.of_rowIs {w : World} {b : Nat} {t : TypeId} {n : Nat} {f : Nat → Value} (h : w.rowIs b t n f) {lo : Nat} (hl : lo ≤ b) : Row w lo (some ⟨b, 0, none⟩) n f :=
  ⟨b, 0, fun _ => ⟨rfl, hl⟩, fun i hi => by simpa using h.cell hi⟩
theorem Row.congr {w : World} {lo : Nat} {a : Option Addr} {n : Nat} {f g : Nat → Value} (h : Row w lo a n f) (e : ∀ i, i < n → f i = g i) : Row w lo a n g := by
  obtain ⟨b, off, h1, h2⟩ := h
  exact ⟨b, off, h1, fun i hi => by rw [h2 i hi, e i hi]⟩
theorem Row.zero (w : World) (lo : Nat) (a : Option Addr) (f : Nat → Value) : Row w lo a 0 f := ⟨0, 0, fun h => by omega, fun i hi => by omega⟩

/-- A slice of slices of ints. -/
def Mat (w : World) (lo : Nat) (a : Option Addr) (n : Nat) (L : Nat → Nat) (Z : Nat → Nat → Int) : Prop :=
  ∃ (A : Nat → Option Addr) (C : Nat → Nat), Row w lo a n (fun i => .slice (A i) (L i) (C i)) ∧ ∀ i, i < n → Row w lo (A i) (L i) (fun j => .int .i64 (Z i j))
theorem Mat.below {w w' : World} {lo : Nat} {a : Option Addr} {n : Nat} {L : Nat → Nat} {Z : Nat → Nat → Int} (h : Mat w lo a n L Z) {B : Nat} (hB : w.heap.size ≤ B) (hb : Below B w w') : Mat w' lo a n L Z := by
  obtain ⟨A, C, h1, h2⟩ := h
  exact ⟨A, C, h1.below hB hb, fun i hi => (h2 i hi).below hB hb⟩
theorem Mat.mono {w : World} {lo lo' : Nat} {a : Option Addr} {n : Nat} {L : Nat → Nat} {Z : Nat → Nat → Int} (h : Mat w lo a n L Z) (hl : lo' ≤ lo) : Mat w lo' a n L Z := by
  obtain ⟨A, C, h1, h2⟩ := h
  exact ⟨A, C, h1.mono hl, fun i hi => (h2 i hi).mono hl⟩
theorem Mat.set {w : World} {lo : Nat} {a : Option Addr} {n : Nat} {L : Nat → Nat} {Z : Nat → Nat → Int} (h : Mat w lo a n L Z) {p : Addr} (hp : p.block < lo) (v : Value) : Mat (w.setCell p v) lo a n L Z := by
  obtain ⟨A, C, h1, h2⟩ := h
  exact ⟨A, C, h1.set hp v, fun i hi => (h2 i hi).set hp v⟩
theorem Mat.grown {w w' : World} {lo : Nat} {a : Option Addr} {n : Nat} {L : Nat → Nat} {Z : Nat → Nat → Int} (h : Mat w lo a n L Z) {row : Option Nat} (hg : w.grownBy w' row) (hr : ∀ k, row = some k → k < lo ∨ w.heap.size ≤ k) : Mat w' lo a n L Z := by
  obtain ⟨A, C, h1, h2⟩ := h
  exact ⟨A, C, h1.grown hg hr, fun i hi => (h2 i hi).grown hg hr⟩
/-- What a copying function hands back: a slice of n cells 'f i' in new memory; nothing old has turned. -/
def RetRow (w : World) (n : Nat) (f : Nat → Value) (e : Ending) (w' : World) : Prop :=
  ∃ a' cap', e = .returned (.slice a' n cap') ∧ Row w' w.heap.size a' n f ∧ Below w.heap.size w w' ∧ (a' = none → n = 0)
/-- .. a slice of slices of ints. -/
def RetMat (w : World) (n : Nat) (L : Nat → Nat) (Z : Nat → Nat → Int) (e : Ending) (w' : World) : Prop :=
  ∃ a' cap', e = .returned (.slice a' n cap') ∧ Mat w' w.heap.size a' n L Z ∧ Below w.heap.size w w' ∧ (a' = none → n = 0)
end Go.Proofs.Qxb6601698a
