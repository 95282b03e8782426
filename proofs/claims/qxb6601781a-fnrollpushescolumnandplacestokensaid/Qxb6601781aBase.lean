/- Plain words on memory: a slice's cells ('Row'). No walk here. -/
import Derived.Test.Qxb6601781aChecked
import Derived.WalkKit
import Derived.Deep.OwnRows
namespace Go.Proofs.Qxb6601781a
open Go.RowKit

theorem Try.info3 : (Try.prog.info? 3).map (fun i => (i.zero, i.size, i.bytes)) = some (some (.int .i64 0), 1, 8) := by kernel_rfl
theorem Try.info5 : (Try.prog.info? 5).map (fun i => (i.zero, i.size, i.bytes)) = some (some (.int .u8 0), 1, 1) := by kernel_rfl
theorem Try.info9 : (Try.prog.info? 9).map (fun i => (i.zero, i.size, i.bytes)) = some (some (.string ByteArray.empty), 1, 16) := by kernel_rfl
theorem Try.info51 : (Try.prog.info? 51).map (fun i => (i.zero, i.size, i.bytes)) = some (some (.agg #[.int .u8 0, .int .u8 0, .int .i64 0, .string ByteArray.empty, .string ByteArray.empty, .int .i64 0]), 6, 56) := by kernel_rfl

theorem ret_int {k : IntKind} {a b : Int} (h : a = b) : Ending.returned (.int k a) = .returned (.int k b) := by rw [h]

/-- n cells 'f i' lie at the address a, in a block from lo on. -/
def Row (w : World) (lo : Nat) (a : Option Addr) (n : Nat) (f : Nat → Value) : Prop :=
  ∃ b off, (0 < n → a = some ⟨b, off, none⟩ ∧ lo ≤ b) ∧ ∀ i, i < n → w.cell? ⟨b, off + i, none⟩ = some (f i)

theorem Row.below {w w' : World} {lo : Nat} {a : Option Addr} {n : Nat} {f : Nat → Value} (h : Row w lo a n f) {B : Nat} (hB : w.heap.size ≤ B) (hb : Below B w w') : Row w' lo a n f := by
  obtain ⟨b, off, h1, h2⟩ := h
  refine ⟨b, off, h1, fun i hi => ?_⟩
  have h3 := h2 i hi
  have hlt := World.block_lt_of_cell? _ _ h3
  rw [hb.cell (p := ⟨b, off + i, none⟩) (by show b < B; exact Nat.lt_of_lt_of_le hlt hB)]
  exact h3
theorem Row.drew {w : World} {lo : Nat} {a : Option Addr} {n : Nat} {f : Nat → Value} (h : Row w lo a n f) : Row w.drew lo a n f := h
theorem Row.mono {w : World} {lo lo' : Nat} {a : Option Addr} {n : Nat} {f : Nat → Value} (h : Row w lo a n f) (hl : lo' ≤ lo) : Row w lo' a n f := by
  obtain ⟨b, off, h1, h2⟩ := h
  exact ⟨b, off, fun h => ⟨(h1 h).1, Nat.le_trans hl (h1 h).2⟩, h2⟩
/-- A store into a block below lo. -/
theorem Row.set {w : World} {lo : Nat} {a : Option Addr} {n : Nat} {f : Nat → Value} (h : Row w lo a n f) {p : Addr} (hp : p.block < lo) (v : Value) : Row (w.setCell p v) lo a n f := by
  obtain ⟨b, off, h1, h2⟩ := h
  refine ⟨b, off, h1, fun i hi => ?_⟩
  rw [World.cell?_setCell_other _ _ _ _ (fun e => by have := congrArg Addr.block e; have h3 := (h1 (by omega)).2; simp at this; omega)]
  exact h2 i hi
/-- A step that turned one block below lo alone, and made new ones. -/
theorem Row.grown {w w' : World} {lo : Nat} {a : Option Addr} {n : Nat} {f : Nat → Value} (h : Row w lo a n f) {row : Option Nat} (hg : w.grownBy w' row) (hr : ∀ k, row = some k → k < lo ∨ w.heap.size ≤ k) : Row w' lo a n f := by
  obtain ⟨b, off, h1, h2⟩ := h
  refine ⟨b, off, h1, fun i hi => ?_⟩
  have hlt : b < w.heap.size := World.block_lt_of_cell? _ _ (h2 i hi)
  have h3 := (h1 (by omega)).2
  have : w'.heap[b]? = w.heap[b]? := hg.block b hlt (fun e => by rcases hr b e.symm with h | h <;> omega)
  rw [World.cell?_of_block (w := w) (w' := w') (a := ⟨b, off + i, none⟩) this]
  exact h2 i hi
theorem Row.alloc {w : World} {lo : Nat} {a : Option Addr} {n : Nat} {f : Nat → Value} (h : Row w lo a n f) (o : Obj) : Row (w.alloc o) lo a n f :=
  h.grown (World.grownBy_alloc w o none) (by simp)
theorem Row.of_rowIs {w : World} {b : Nat} {t : TypeId} {n : Nat} {f : Nat → Value} (h : w.rowIs b t n f) {lo : Nat} (hl : lo ≤ b) : Row w lo (some ⟨b, 0, none⟩) n f :=
  ⟨b, 0, fun _ => ⟨rfl, hl⟩, fun i hi => by simpa using h.cell hi⟩
theorem Row.congr {w : World} {lo : Nat} {a : Option Addr} {n : Nat} {f g : Nat → Value} (h : Row w lo a n f) (e : ∀ i, i < n → f i = g i) : Row w lo a n g := by
  obtain ⟨b, off, h1, h2⟩ := h
  exact ⟨b, off, h1, fun i hi => by rw [h2 i hi, e i hi]⟩
theorem Row.zero (w : World) (lo : Nat) (a : Option Addr) (f : Nat → Value) : Row w lo a 0 f := ⟨0, 0, fun h => by omega, fun i hi => by omega⟩

/-- What a copying function hands back: a slice of n cells 'f i' in new memory; nothing old has turned. -/
def RetRow (w : World) (n : Nat) (f : Nat → Value) (e : Ending) (w' : World) : Prop :=
  ∃ a', e = .returned (.slice a' n n) ∧ Row w' w.heap.size a' n f ∧ Below w.heap.size w w'
theorem Row.nil {w : World} {lo : Nat} {a : Option Addr} {n : Nat} {f : Nat → Value} (h : Row w lo a n f) : a = none → n = 0 := by
  obtain ⟨b, off, h1, _⟩ := h
  intro e
  rcases Nat.eq_zero_or_pos n with h | h
  · exact h
  · have := (h1 h).1
    rw [e] at this
    cases this
theorem Row.at0 {W : World} {lo b n : Nat} {f : Nat → Value} (h : Row W lo (some ⟨b, 0, none⟩) n f) {i : Nat} (hi : i < n) : W.cell? ⟨b, i, none⟩ = some (f i) := by
  obtain ⟨b', o, h1, h2⟩ := h
  have e := (h1 (by omega)).1
  simp only [Option.some.injEq, Addr.mk.injEq, and_true] at e
  obtain ⟨rfl, rfl⟩ := e
  simpa using h2 i hi
theorem Below.next {w W W' : World} (h : Below w.heap.size w W) (h' : Below W.heap.size W W') : Below w.heap.size w W' := h.trans (h'.mono h.size)
end Go.Proofs.Qxb6601781a
