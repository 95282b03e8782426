/- Plain words on memory: a slice's cells ('Row'). No walk here. -/
import Derived.Test.Qxb6601797aChecked
import Derived.WalkKit
import Derived.Deep.OwnRows
namespace Go.Proofs.Qxb6601797a
open Go.RowKit

theorem Try.info21 : (Try.prog.info? 21).map (fun i => (i.zero, i.size, i.bytes)) = some (some (.int .i32 0), 1, 4) := by kernel_rfl
theorem Try.info4 : (Try.prog.info? 4).map (fun i => (i.zero, i.size, i.bytes)) = some (some (.bool false), 1, 1) := by kernel_rfl

theorem ret_int {k : IntKind} {a b : Int} (h : a = b) : Ending.returned (.int k a) = .returned (.int k b) := by rw [h]

/-- n cells 'f i' lie at the address a, in a block from lo on. -/
def Row (w : World) (lo : Nat) (a : Option Addr) (n : Nat) (f : Nat → Value) : Prop :=
  ∃ b off, (0 < n → a = some ⟨b, off, none⟩ ∧ lo ≤ b) ∧ ∀ i, i < n → w.cell? ⟨b, off + i, none⟩ = some (f i)

theorem Row.below {w w' : World} {lo : Nat} {a : Option Addr} {n : Nat} {f : Nat → Value} (h : Row w lo a n f) {B : Nat} (hB : w.heap.size ≤ B) (hb : Below B w w') : Row w' lo a n f := by
  obtain ⟨b, off, h1, h2⟩ := h
  refine ⟨b, off, h1, fun i hi => ?_⟩
  have h3 := h2 i hi
  have hlt := World.block_lt_of_cell? _ _ h3
  rw [hb.cell (p := ⟨b, off + i, none⟩) (by show b < B; exact Nat.lt_of_lt_of_le hlt hB)]
  exact h3
theorem Row.drew {w : World} {lo : Nat} {a : Option Addr} {n : Nat} {f : Nat → Value} (h : Row w lo a n f) : Row w.drew lo a n f := h
theorem Row.mono {w : World} {lo lo' : Nat} {a : Option Addr} {n : Nat} {f : Nat → Value} (h : Row w lo a n f) (hl : lo' ≤ lo) : Row w lo' a n f := by
  obtain ⟨b, off, h1, h2⟩ := h
  exact ⟨b, off, fun h => ⟨(h1 h).1, Nat.le_trans hl (h1 h).2⟩, h2⟩
/-- A store into a block below lo. -/
theorem Row.set {w : World} {lo : Nat} {a : Option Addr} {n : Nat} {f : Nat → Value} (h : Row w lo a n f) {p : Addr} (hp : p.block < lo) (v : Value) : Row (w.setCell p v) lo a n f := by
  obtain ⟨b, off, h1, h2⟩ := h
  refine ⟨b, off, h1, fun i hi => ?_⟩
  rw [World.cell?_setCell_other _ _ _ _ (fun e => by have := congrArg Addr.block e; have h3 := (h1 (by omega)).2; simp at this; omega)]
  exact h2 i hi
/-- A step that turned one block below lo alone, and made new ones. -/
theorem Row.grown {w w' : World} {lo : Nat} {a : Option Addr} {n : Nat} {f : Nat → Value} (h : Row w lo a n f) {row : Option Nat} (hg : w.grownBy w' row) (hr : ∀ k, row = some k → k < lo ∨ w.heap.size ≤ k) : Row w' lo a n f := by
  obtain ⟨b, off, h1, h2⟩ := h
  refine ⟨b, off, h1, fun i hi => ?_⟩
  have hlt : b < w.heap.size := World.block_lt_of_cell? _ _ (h2 i hi)
  have h3 := (h1 (by omega)).2
  have : w'.heap[b]? = w.heap[b]? := hg.block b hlt (fun e => by rcases hr b e.symm with h | h <;> omega)
  rw [World.cell?_of_block (w := w) (w' := w') (a := ⟨b, off + i, none⟩) this]
  exact h2 i hi
theorem Row.alloc {w : World} {lo : Nat} {a : Option Addr} {n : Nat} {f : Nat → Value} (h : Row w lo a n f) (o : Obj) : Row (w.alloc o) lo a n f :=
  h.grown (World.grownBy_alloc w o none) (by simp)
theorem Row.of_rowIs {w : World} {b : Nat} {t : TypeId} {n : Nat} {f : Nat → Value} (h : w.rowIs b t n f) {lo : Nat} (hl : lo ≤ b) : Row w lo (some ⟨b, 0, none⟩) n f :=
  ⟨b, 0, fun _ => ⟨rfl, hl⟩, fun i hi => by simpa using h.cell hi⟩
theorem Row.congr {w : World} {lo : Nat} {a : Option Addr} {n : Nat} {f g : Nat → Value} (h : Row w lo a n f) (e : ∀ i, i < n → f i = g i) : Row w lo a n g := by
  obtain ⟨b, off, h1, h2⟩ := h
  exact ⟨b, off, h1, fun i hi => by rw [h2 i hi, e i hi]⟩
theorem Row.zero (w : World) (lo : Nat) (a : Option Addr) (f : Nat → Value) : Row w lo a 0 f := ⟨0, 0, fun h => by omega, fun i hi => by omega⟩

/-- What a copying function hands back: a slice of n cells 'f i' in new memory; nothing old has turned. -/
def RetRow (w : World) (n : Nat) (f : Nat → Value) (e : Ending) (w' : World) : Prop :=
  ∃ a', e = .returned (.slice a' n n) ∧ Row w' w.heap.size a' n f ∧ Below w.heap.size w w'
theorem Row.nil {w : World} {lo : Nat} {a : Option Addr} {n : Nat} {f : Nat → Value} (h : Row w lo a n f) : a = none → n = 0 := by
  obtain ⟨b, off, h1, _⟩ := h
  intro e
  rcases Nat.eq_zero_or_pos n with h | h
  · exact h
  · have := (h1 h).1
    rw [e] at this
    cases this
theorem Row.at0 {W : World} {lo b n : Nat} {f : Nat → Value} (h : Row W lo (some ⟨b, 0, none⟩) n f) {i : Nat} (hi : i < n) : W.cell? ⟨b, i, none⟩ = some (f i) := by
  obtain ⟨b', o, h1, h2⟩ := h
  have e := (h1 (by omega)).1
  simp only [Option.some.injEq, Addr.mk.injEq, and_true] at e
  obtain ⟨rfl, rfl⟩ := e
  simpa using h2 i hi
theorem Below.next {w W W' : World} (h : Below w.heap.size w W) (h' : Below W.heap.size W W') : Below w.heap.size w W' := h.trans (h'.mono h.size)

/-- a piece's fields -/
structure Pc where
  site : Nat → Int
  seq : Int
  k : Int
  ta : Option Addr
  tn : Nat
  tc : Nat
  clock : Int
  del : Bool
  ma : Option Addr
  mn : Nat
  mc : Nat
  next : Int
  pl : Nat → Int
  pri : Int
  size : Int

/-- its 31 cells -/
def Pc.cell (x : Pc) : Nat → Value
  | 16 => .int .u64 x.seq
  | 17 => .int .i64 x.k
  | 18 => .slice x.ta x.tn x.tc
  | 19 => .int .u64 x.clock
  | 20 => .bool x.del
  | 21 => .slice x.ma x.mn x.mc
  | 22 => .int .i32 x.next
  | 23 => .int .i32 (x.pl 0)
  | 24 => .int .i32 (x.pl 1)
  | 25 => .int .i32 (x.pl 2)
  | 26 => .int .i32 (x.pl 3)
  | 27 => .int .i32 (x.pl 4)
  | 28 => .int .i32 (x.pl 5)
  | 29 => .int .u64 x.pri
  | 30 => .int .i64 x.size
  | f => .int .u8 (x.site f)

/-- a mark's fields -/
structure Mk where
  site : Nat → Int
  seq : Int
  hide : Bool

/-- its 18 cells -/
def Mk.cell (x : Mk) : Nat → Value
  | 16 => .int .u64 x.seq
  | 17 => .bool x.hide
  | f => .int .u8 (x.site f)

/-- the cells of a row of pieces, of a row of marks -/
def pcs (X : Nat → Pc) (j : Nat) : Value := (X (j / 31)).cell (j % 31)
def mks (M : Nat → Mk) (j : Nat) : Value := (M (j / 18)).cell (j % 18)

/-- a slice of n pieces with all that they lead to -/
structure Data (w : World) (lo : Nat) (a : Option Addr) (n : Nat) (X : Nat → Pc) (T : Nat → Nat → Int) (M : Nat → Nat → Mk) : Prop where
  row : Row w lo a (n * 31) (pcs X)
  text : ∀ i, i < n → Row w lo (X i).ta (X i).tn (fun j => .int .i32 (T i j))
  mark : ∀ i, i < n → Row w lo (X i).ma ((X i).mn * 18) (mks (M i))

theorem Data.below {w w' : World} {lo : Nat} {a : Option Addr} {n : Nat} {X : Nat → Pc} {T : Nat → Nat → Int} {M : Nat → Nat → Mk} (h : Data w lo a n X T M) {B : Nat} (hB : w.heap.size ≤ B) (hb : Below B w w') : Data w' lo a n X T M :=
  ⟨h.row.below hB hb, fun i hi => (h.text i hi).below hB hb, fun i hi => (h.mark i hi).below hB hb⟩

theorem pcs_at (X : Nat → Pc) (i f : Nat) (hf : f < 31) : pcs X (i * 31 + f) = (X i).cell f := by
  unfold pcs
  rw [show (i * 31 + f) / 31 = i by omega, show (i * 31 + f) % 31 = f by omega]
theorem mks_at (M : Nat → Mk) (i f : Nat) (hf : f < 18) : mks M (i * 18 + f) = (M i).cell f := by
  unfold mks
  rw [show (i * 18 + f) / 18 = i by omega, show (i * 18 + f) % 18 = f by omega]
/-- a field's cell -/
theorem Row.pc {w : World} {b off n : Nat} {X : Nat → Pc} (h : ∀ i, i < n * 31 → w.cell? ⟨b, off + i, none⟩ = some (pcs X i)) {i : Nat} (hi : i < n) (f : Nat) (hf : f < 31) : w.cell? ⟨b, off + i * 31 + f, none⟩ = some ((X i).cell f) := by
  rw [← pcs_at X i f hf, Nat.add_assoc]
  exact h _ (by omega)
theorem Row.mk {w : World} {b off n : Nat} {M : Nat → Mk} (h : ∀ i, i < n * 18 → w.cell? ⟨b, off + i, none⟩ = some (mks M i)) {i : Nat} (hi : i < n) (f : Nat) (hf : f < 18) : w.cell? ⟨b, off + i * 18 + f, none⟩ = some ((M i).cell f) := by
  rw [← mks_at M i f hf, Nat.add_assoc]
  exact h _ (by omega)
end Go.Proofs.Qxb6601797a
