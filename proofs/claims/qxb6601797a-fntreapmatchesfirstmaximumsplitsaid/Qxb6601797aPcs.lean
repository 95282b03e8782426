/- Words for the three converters (zPieces, ZZMakePieces, ZZReadPieces). -/
import Derived.Test.Qxb6601797aPrem
import Derived.Deep.RegionLaw
import Derived.Deep.DeepCutAuto
import Derived.WalkSpells
import Derived.Laws.Cover3
import Derived.Deep.MidRow
import Derived.Deep.WholeRow
import Derived.Test.Qxb6601797aLast
namespace Go.Proofs.Qxb6601797a
open Go.RowKit

theorem Try.size77 : (Try.prog.info? 77).map (fun i => (i.zero.isSome, i.size, decide (i.bytes ≤ 1024))) = some (true, 31, true) := by kernel_rfl
theorem Try.size114 : (Try.prog.info? 114).map (fun i => (i.zero.isSome, i.size, decide (i.bytes ≤ 1024))) = some (true, 18, true) := by kernel_rfl

theorem Try.size121 : (Try.prog.info? 121).map (fun i => (i.zero.isSome, i.size, decide (i.bytes ≤ 1024))) = some (true, 31, true) := by kernel_rfl
theorem Try.size116 : (Try.prog.info? 116).map (fun i => (i.zero.isSome, i.size, decide (i.bytes ≤ 1024))) = some (true, 18, true) := by kernel_rfl

/-- make of n elements of s cells: what they hold at first is all one -/
theorem run_make_any {t e : TypeId} {s : Nat} (ht : Try.prog.underlying t = some (.slice e)) (hi : (Try.prog.info? e).map (fun i => (i.zero.isSome, i.size, decide (i.bytes ≤ 1024))) = some (true, s, true)) (n : Nat) (hn : n ≤ 1048576) :
    ∃ cs : Array Value, cs.size = n * s ∧ ∀ w : World, (Instr.makeSlice t (.int .i64 (n : Int)) (.int .i64 (n : Int))).run Try.prog w = .ok (.slice (some ⟨w.heap.size, 0, none⟩) n n) (w.alloc (.cells cs e)) := by
  obtain ⟨i, hi, hzz⟩ := Option.map_eq_some_iff.1 hi
  simp only [Prod.mk.injEq, decide_eq_true_eq] at hzz
  obtain ⟨hz, hs, hb⟩ := hzz
  obtain ⟨z, hz⟩ := Option.isSome_iff_exists.1 hz
  refine ⟨madeCells z.cells (n * s), size_madeCells _ _, fun w => ?_⟩
  have hr := run_make (P := Try.prog) w t e i z ht hi hz .i64 .i64 n n (by omega) (Int.le_refl _) (by
    have h1 : i.bytes * n ≤ 1073741824 := Nat.le_trans (Nat.mul_le_mul hb hn) (by decide)
    have h2 : ((i.bytes * n : Nat) : Int) ≤ 1073741824 := by omega
    rw [Int.natCast_mul] at h2
    omega) (by omega)
  simp only [Int.toNat_natCast, hs] at hr
  exact hr

theorem setCells_row {b N : Nat} {t : TypeId} : ∀ (vs : List Value) {w : World} {o : Nat} {F : Nat → Value}, w.rowIs b t N F →
    (w.setCells b o vs).rowIs b t N (fun j => if o ≤ j ∧ j < o + vs.length then vs.getD (j - o) default else F j)
  | [], w, o, F, h => h.congr (fun j _ => by simp; omega)
  | v :: vs, w, o, F, h => by
    refine (setCells_row vs (h.set o v)).congr (fun j _ => ?_)
    simp only [List.length_cons]
    by_cases h1 : j = o
    · subst h1
      rw [if_neg (by omega), if_pos rfl, if_pos ⟨by omega, by omega⟩]
      simp
    · by_cases h2 : o ≤ j ∧ j < o + (vs.length + 1)
      · rw [if_pos h2, if_pos (by omega), show j - o = (j - (o + 1)) + 1 by omega]
        rfl
      · rw [if_neg h2, if_neg (by omega)]
        simp [h1]
theorem setCells_below {B b : Nat} {w0 : World} (hb : B ≤ b) : ∀ (vs : List Value) {w : World} {o : Nat}, Below B w0 w → Below B w0 (w.setCells b o vs)
  | [], _, _, h => h
  | v :: vs, _, o, h => setCells_below hb vs (h.setCell (p := ⟨b, o, none⟩) hb v)
theorem setCells_size {b : Nat} : ∀ (vs : List Value) {w : World} {o : Nat}, (w.setCells b o vs).heap.size = w.heap.size
  | [], _, _ => rfl
  | v :: vs, w, o => by rw [World.setCells, setCells_size vs]; simp
theorem rowIs_there {w : World} {b N o n : Nat} {t : TypeId} {F : Nat → Value} (h : w.rowIs b t N F) (ho : o + n ≤ N) : w.there b o n := fun j hj => by
  rw [h.cell (i := o + j) (by omega)]
  exact ⟨rfl, h.frozen _⟩
theorem rowIs_range {w : World} {b N : Nat} {t : TypeId} {x : Pc} (h : w.rowIs b t N x.cell) (hN : N = 31) : ∀ f, f < 31 → w.cell? ⟨b, f, none⟩ = some (x.cell f) := fun f hf => h.cell (by omega)

theorem setCells_other {b x : Nat} (hx : x ≠ b) : ∀ (vs : List Value) {w : World} {o : Nat}, (w.setCells b o vs).heap[x]? = w.heap[x]?
  | [], _, _ => rfl
  | v :: vs, w, o => by
    rw [World.setCells, setCells_other hx vs]
    exact Below.heap_setCell _ _ _ _ hx
theorem setCells_drewN {b n : Nat} : ∀ (vs : List Value) {w : World} {o : Nat}, (w.drewN n).setCells b o vs = (w.setCells b o vs).drewN n
  | [], _, _ => rfl
  | v :: vs, w, o => by
    rw [World.setCells, World.setCells, ← setCells_drewN vs]
    rfl
theorem World.heap_drew' (w : World) : w.drew.heap = w.heap := rfl
theorem other1 {B x : Nat} (hx : x ≠ B) (w : World) (o : Nat) (v : Value) : (w.setCell ⟨B, o, none⟩ v).heap[x]? = w.heap[x]? := Below.heap_setCell _ _ _ _ hx
theorem keepM {wr W' : World} {B bx bm o1 o2 o3 o4 : Nat} {v1 v2 v3 : Value} {cs : List Value} (h1 : bx ≠ B) (h2 : bm ≠ B) (d1 : wr.cell? ⟨bx, o1, none⟩ = some v1) (d2 : wr.cell? ⟨bm, o2, none⟩ = some v2) (d3 : wr.cell? ⟨bm, o3, none⟩ = some v3) (d4 : wr.rangeAt bm o4 cs)
    (hW : ∀ blk, blk ≠ B → W'.heap[blk]? = wr.heap[blk]?) : W'.cell? ⟨bx, o1, none⟩ = some v1 ∧ W'.cell? ⟨bm, o2, none⟩ = some v2 ∧ W'.cell? ⟨bm, o3, none⟩ = some v3 ∧ W'.rangeAt bm o4 cs :=
  ⟨(World.cell?_of_block (a := ⟨bx, o1, none⟩) (hW bx h1)).trans d1, (World.cell?_of_block (a := ⟨bm, o2, none⟩) (hW bm h2)).trans d2, (World.cell?_of_block (a := ⟨bm, o3, none⟩) (hW bm h2)).trans d3,
    fun j v hv => (World.cell?_of_block (a := ⟨bm, o4 + j, none⟩) (hW bm h2)).trans (d4 j v hv)⟩
theorem mk_range {w : World} {b o : Nat} {m : Mk} (h : ∀ f, f < 18 → w.cell? ⟨b, o + f, none⟩ = some (m.cell f)) : w.rangeAt b o ((List.range 16).map m.cell) := fun j v hj => by
  have hj16 : j < 16 := by
    rcases Nat.lt_or_ge j 16 with h | h
    · exact h
    · rw [List.getElem?_eq_none (by simpa using h)] at hj; cases hj
  have : v = m.cell j := by simpa [hj16] using hj.symm
  rw [this]
  exact h j (by omega)

/-- the piece is as it was, but for where its text and its marks lie -/
structure Alike (x y : Pc) : Prop where
  site : ∀ i, i < 16 → y.site i = x.site i
  seq : y.seq = x.seq
  k : y.k = x.k
  tn : y.tn = x.tn
  tnil : y.ta = none ↔ x.ta = none
  clock : y.clock = x.clock
  del : y.del = x.del
  mn : y.mn = x.mn
  mnil : y.ma = none ↔ x.ma = none
  next : y.next = x.next
  pl : ∀ i, i < 6 → y.pl i = x.pl i
  pri : y.pri = x.pri
  size : y.size = x.size

/-- n cells 'f i' lie at the address a, in a block other than g -/
def RowN (w : World) (g : Nat) (a : Option Addr) (n : Nat) (f : Nat → Value) : Prop :=
  ∃ b off, (0 < n → a = some ⟨b, off, none⟩ ∧ b ≠ g) ∧ ∀ i, i < n → w.cell? ⟨b, off + i, none⟩ = some (f i)
theorem RowN.of_row {w : World} {lo g : Nat} {a : Option Addr} {n : Nat} {f : Nat → Value} (h : Row w lo a n f) (hg : g < lo) : RowN w g a n f := by
  obtain ⟨b, off, h1, h2⟩ := h
  exact ⟨b, off, fun hn => ⟨(h1 hn).1, by have := (h1 hn).2; omega⟩, h2⟩
theorem RowN.row {w : World} {g : Nat} {a : Option Addr} {n : Nat} {f : Nat → Value} (h : RowN w g a n f) : Row w 0 a n f := by
  obtain ⟨b, off, h1, h2⟩ := h
  exact ⟨b, off, fun hn => ⟨(h1 hn).1, Nat.zero_le _⟩, h2⟩
/-- an old row, told of a new block -/
theorem RowN.of_old {w : World} {g : Nat} {a : Option Addr} {n : Nat} {f : Nat → Value} (h : Row w 0 a n f) (hg : w.heap.size ≤ g) : RowN w g a n f := by
  obtain ⟨b, off, h1, h2⟩ := h
  refine ⟨b, off, fun hn => ⟨(h1 hn).1, ?_⟩, h2⟩
  have := World.block_lt_of_cell? _ _ (h2 0 hn)
  simp only at this
  omega
/-- every block but g is as it was -/
theorem RowN.keep {w w' : World} {g : Nat} {a : Option Addr} {n : Nat} {f : Nat → Value} (h : RowN w g a n f) (hk : ∀ b, b < w.heap.size → b ≠ g → w'.heap[b]? = w.heap[b]?) : RowN w' g a n f := by
  obtain ⟨b, off, h1, h2⟩ := h
  refine ⟨b, off, h1, fun i hi => ?_⟩
  have hlt := World.block_lt_of_cell? _ _ (h2 i hi)
  rw [World.cell?_of_block (w := w) (w' := w') (a := ⟨b, off + i, none⟩) (hk b hlt (h1 (by omega)).2)]
  exact h2 i hi
theorem RowN.below {w w' : World} {g : Nat} {a : Option Addr} {n : Nat} {f : Nat → Value} (h : RowN w g a n f) {B : Nat} (hB : w.heap.size ≤ B) (hb : Below B w w') : RowN w' g a n f :=
  h.keep fun b hlt _ => hb.block b (Nat.lt_of_lt_of_le hlt hB)

/-- a row of n pieces at block g, with all that they lead to -/
structure Pieces (w : World) (g : Nat) (t : TypeId) (n : Nat) (Y : Nat → Pc) (T : Nat → Nat → Int) (M : Nat → Nat → Mk) : Prop where
  row : w.rowIs g t (n * 31) (pcs Y)
  text : ∀ i, i < n → RowN w g (Y i).ta (Y i).tn (fun j => .int .i32 (T i j))
  mark : ∀ i, i < n → RowN w g (Y i).ma ((Y i).mn * 18) (mks (M i))
theorem Pieces.data {w : World} {g : Nat} {t : TypeId} {n : Nat} {Y : Nat → Pc} {T : Nat → Nat → Int} {M : Nat → Nat → Mk} (h : Pieces w g t n Y T M) : Data w 0 (some ⟨g, 0, none⟩) n Y T M :=
  ⟨Row.of_rowIs h.row (Nat.zero_le _), fun i hi => (h.text i hi).row, fun i hi => (h.mark i hi).row⟩

/-- the first k of them laid -/
structure Half (w : World) (g : Nat) (t : TypeId) (n k : Nat) (X Y : Nat → Pc) (T : Nat → Nat → Int) (M : Nat → Nat → Mk) : Prop where
  row : ∃ F, w.rowIs g t (n * 31) F ∧ ∀ i, i < k → ∀ f, f < 31 → F (i * 31 + f) = (Y i).cell f
  alike : ∀ i, i < k → Alike (X i) (Y i)
  text : ∀ i, i < k → RowN w g (Y i).ta (Y i).tn (fun j => .int .i32 (T i j))
  mark : ∀ i, i < k → RowN w g (Y i).ma ((Y i).mn * 18) (mks (M i))
theorem Half.below {w w' : World} {g : Nat} {t : TypeId} {n k : Nat} {X Y : Nat → Pc} {T : Nat → Nat → Int} {M : Nat → Nat → Mk} (h : Half w g t n k X Y T M) (hg : g < w.heap.size) (hb : Below w.heap.size w w') : Half w' g t n k X Y T M :=
  ⟨by obtain ⟨F, h1, h2⟩ := h.row; exact ⟨F, h1.of_block (hb.block g hg), h2⟩, h.alike, fun i hi => (h.text i hi).below (Nat.le_refl _) hb, fun i hi => (h.mark i hi).below (Nat.le_refl _) hb⟩
theorem Half.drewN {w : World} {g : Nat} {t : TypeId} {n k : Nat} {X Y : Nat → Pc} {T : Nat → Nat → Int} {M : Nat → Nat → Mk} (h : Half w g t n k X Y T M) (q : Nat) : Half (w.drewN q) g t n k X Y T M :=
  ⟨h.row, h.alike, h.text, h.mark⟩
theorem Half.full {w : World} {g : Nat} {t : TypeId} {n : Nat} {X Y : Nat → Pc} {T : Nat → Nat → Int} {M : Nat → Nat → Mk} (h : Half w g t n n X Y T M) : Pieces w g t n Y T M := by
  obtain ⟨F, h1, h2⟩ := h.row
  refine ⟨h1.congr fun j hj => ?_, h.text, h.mark⟩
  have := h2 (j / 31) (by omega) (j % 31) (by omega)
  rw [show j / 31 * 31 + j % 31 = j by omega] at this
  exact this

/-- what the three converters hand back -/
def RetPcs (w : World) (a : Option Addr) (t : TypeId) (n : Nat) (X : Nat → Pc) (T : Nat → Nat → Int) (M : Nat → Nat → Mk) (e : Ending) (w' : World) : Prop :=
  Below w.heap.size w w' ∧ ((a = none ∧ e = .returned (.slice none 0 0)) ∨
    ∃ (g : Nat) (Y : Nat → Pc), a ≠ none ∧ e = .returned (.slice (some ⟨g, 0, none⟩) n n) ∧ w.heap.size ≤ g ∧ Pieces w' g t n Y T M ∧ ∀ i, i < n → Alike (X i) (Y i))

/-- the 31 cells of a piece, as a list -/
def Pc.list (x : Pc) : List Value := (List.range 31).map x.cell
theorem Pc.list_length (x : Pc) : x.list.length = 31 := by simp [Pc.list]
theorem Pc.list_get (x : Pc) (f : Nat) (hf : f < 31) : x.list[f]? = some (x.cell f) := by simp [Pc.list, hf]
theorem Pc.cell_one (x : Pc) : ∀ f, (x.cell f).oneCell' = true := by
  intro f
  unfold Pc.cell
  split <;> rfl
theorem Pc.list_one (x : Pc) : ∀ v ∈ x.list, v.oneCell' = true := by
  intro v hv
  simp only [Pc.list, List.mem_map, List.mem_range] at hv
  obtain ⟨f, hf, rfl⟩ := hv
  exact x.cell_one f
theorem Try.size116' : (Try.prog.info? 116).map (·.size) = some 18 := by kernel_rfl
theorem Try.size114' : (Try.prog.info? 114).map (·.size) = some 18 := by kernel_rfl
theorem Try.size22 : (Try.prog.info? 22).map (·.size) = some 16 := by kernel_rfl
theorem Try.size70 : (Try.prog.info? 70).map (·.size) = some 31 := by kernel_rfl

/-- a row of n cells, the first k told -/
def Part (w : World) (b : Nat) (t : TypeId) (n k : Nat) (f : Nat → Value) : Prop := ∃ F, w.rowIs b t n F ∧ ∀ i, i < k → F i = f i
theorem Part.own {w : World} {b : Nat} {t : TypeId} {n k : Nat} {f : Nat → Value} (h : Part w b t n k f) {v : Value} (e : v = f k) : Part (w.setCell ⟨b, k, none⟩ v) b t n (k + 1) f := by
  obtain ⟨F, h1, h2⟩ := h
  refine ⟨_, h1.set k v, fun i hi => ?_⟩
  by_cases h : i = k
  · simp [h, e]
  · simp [h, h2 i (by omega)]
theorem Part.row {w : World} {b : Nat} {t : TypeId} {n : Nat} {f : Nat → Value} (h : Part w b t n n f) {lo : Nat} (hl : lo ≤ b) : Row w lo (some ⟨b, 0, none⟩) n f := by
  obtain ⟨F, h1, h2⟩ := h
  exact (Row.of_rowIs h1 hl).congr h2
theorem Part.fresh (w : World) (t : TypeId) (n : Nat) (z : Value) (f : Nat → Value) : Part (w.alloc (.cells (madeCells #[z] n) t)) w.heap.size t n 0 f :=
  ⟨fun j => (madeCells #[z] n).getD j default, ⟨_, Deep.blk_alloc_new _ _, size_madeCells _ _, fun i hi => by simp [madeCells, hi]⟩, fun i hi => absurd hi (Nat.not_lt_zero _)⟩
theorem rowIs_new (w : World) (t : TypeId) (cs : Array Value) : (w.alloc (.cells cs t)).rowIs w.heap.size t cs.size (fun j => cs.getD j default) :=
  ⟨_, Deep.blk_alloc_new _ _, rfl, fun i hi => by simp [Array.getD, hi]⟩


/-- a whole array or struct, loaded in a quiet walk -/
theorem quiet_load_mid {P : Program} {op : Oper} {a : Act} {w : World} {K : Act → Prop} (ty : TypeId) (x : Operand) (ho : op.op = .load ty x)
    (b o : Nat) (hx : a.eval x = .pointer (some ⟨b, o, none⟩)) (cs : List Value) (d : TypeDesc) (hc : w.rangeAt b o cs)
    (hu : P.underlying ty = some d) (hd : d.isRow = true) (hi : (P.info? ty).map (·.size) = some cs.length)
    (h : K (a.put op.dst (.agg cs.toArray))) : op.quiet P a (fun w' => ∃ n, w' = w.drewN n) K := by
  refine ⟨.agg cs.toArray, fun w' hw' => ?_, h⟩
  obtain ⟨n, rfl⟩ := hw'
  unfold Oper.quietAt execOp
  simp only [ho, hx, Instr.loadAt, Instr.sureAddr, Sem.run_bind, Sem.run_pure, Result.andThen_ok, run_loadVar_mid (w.drewN n) b o ty cs d hc hu hd hi]
  exact ⟨rfl, rfl⟩

/-- a store of the cells vs, the world behind it under a name -/
theorem wpList_store_to {P : Program} {ops : Array Oper} {rest : List Oper} {op : Oper} {a : Act} {w : World} {Q : Exit → Act → World → Prop} (hgd : op.guard = none) (ty : TypeId) (x y : Operand) (ho : op.op = .store ty x y)
    (b o : Nat) (vs : List Value) (W : World) (hW : w.setCells b o vs = W) (hx : a.eval x = .pointer (some ⟨b, o, none⟩)) (hy : a.eval y = .agg vs.toArray)
    (ht : w.there b o vs.length) (hi : (P.info? ty).map (·.size) = some vs.length) (h1 : ∀ v ∈ vs, v.oneCell' = true)
    (h : wpList P ops Q rest (a.put op.dst undef) W) : wpList P ops Q (op :: rest) a w :=
  wpList_store_mid hgd ty x y ho b o vs.toArray hx hy ht hi (all_oneCell_toArray h1) (by rw [List.toList_toArray, hW]; exact h)
def Mk.list (m : Mk) : List Value := (List.range 18).map m.cell
theorem Mk.list_length (m : Mk) : m.list.length = 18 := by simp [Mk.list]
theorem Mk.list_one (m : Mk) : ∀ v ∈ m.list, v.oneCell' = true := by
  intro v hv
  simp only [Mk.list, List.mem_map, List.mem_range] at hv
  obtain ⟨f, hf, rfl⟩ := hv
  unfold Mk.cell
  split <;> rfl
theorem Mk.size114 (m : Mk) : (Try.prog.info? 114).map (·.size) = some m.list.length := by rw [Mk.list_length]; exact Try.size114'
theorem Mk.size116 (m : Mk) : (Try.prog.info? 116).map (·.size) = some m.list.length := by rw [Mk.list_length]; kernel_rfl

theorem Mk.list_cells (m : Mk) : m.list = [.int .u8 (m.site 0), .int .u8 (m.site 1), .int .u8 (m.site 2), .int .u8 (m.site 3), .int .u8 (m.site 4), .int .u8 (m.site 5), .int .u8 (m.site 6), .int .u8 (m.site 7), .int .u8 (m.site 8), .int .u8 (m.site 9), .int .u8 (m.site 10), .int .u8 (m.site 11), .int .u8 (m.site 12), .int .u8 (m.site 13), .int .u8 (m.site 14), .int .u8 (m.site 15), .int .u64 m.seq, .bool m.hide] := rfl
/-- one mark more -/
theorem Part.mark {w : World} {b : Nat} {t : TypeId} {N j : Nat} {M : Nat → Mk} (h : Part w b t N (j * 18) (mks M)) (vs : List Value) (e : vs = (M j).list) : Part (w.setCells b (j * 18) vs) b t N ((j + 1) * 18) (mks M) := by
  obtain ⟨F, h1, h2⟩ := h
  have hl : vs.length = 18 := by rw [e, Mk.list_length]
  refine ⟨_, setCells_row vs h1, fun i hi => ?_⟩
  by_cases hlt : i < j * 18
  · rw [if_neg (by omega)]
    exact h2 i hlt
  · obtain ⟨f, rfl⟩ : ∃ f, i = j * 18 + f := ⟨i - j * 18, by omega⟩
    rw [if_pos (by omega), mks_at M j f (by omega), e, Nat.add_sub_cancel_left]
    have hf : f < 18 := by omega
    rw [List.getD_eq_getElem?_getD]
    simp [Mk.list, hf]

/-- one piece more -/
theorem Half.step {w : World} {g : Nat} {t : TypeId} {n k : Nat} {X Y : Nat → Pc} {T : Nat → Nat → Int} {M : Nat → Nat → Mk} (h : Half w g t n k X Y T M) (y : Pc) (ha : Alike (X k) y)
    (ht : RowN w g y.ta y.tn (fun j => .int .i32 (T k j))) (hm : RowN w g y.ma (y.mn * 18) (mks (M k))) (vs : List Value) (e : vs = y.list) :
    Half (w.setCells g (k * 31) vs) g t n (k + 1) X (fun i => if i = k then y else Y i) T M := by
  obtain ⟨F, h1, h2⟩ := h.row
  have hl : vs.length = 31 := by rw [e, Pc.list_length]
  have hkeep : ∀ b, b < w.heap.size → b ≠ g → (w.setCells g (k * 31) vs).heap[b]? = w.heap[b]? := fun b _ hb => setCells_other hb vs
  refine ⟨⟨_, setCells_row vs h1, fun i hi f hf => ?_⟩, fun i hi => ?_, fun i hi => ?_, fun i hi => ?_⟩
  · by_cases hik : i = k
    · subst hik
      rw [if_pos (by omega), if_pos rfl, Nat.add_sub_cancel_left, e, List.getD_eq_getElem?_getD, Pc.list_get y f hf]
      rfl
    · rw [if_neg (by omega), if_neg hik]
      exact h2 i (by omega) f hf
  · by_cases hik : i = k
    · subst hik; rw [if_pos rfl]; exact ha
    · rw [if_neg hik]; exact h.alike i (by omega)
  · by_cases hik : i = k
    · subst hik; rw [if_pos rfl]; exact ht.keep hkeep
    · rw [if_neg hik]; exact (h.text i (by omega)).keep hkeep
  · by_cases hik : i = k
    · subst hik; rw [if_pos rfl]; exact hm.keep hkeep
    · rw [if_neg hik]; exact (h.mark i (by omega)).keep hkeep

/-- the six numbers of the two places -/
def plv (pl : Nat → Int) (i : Nat) : Value := .int .i32 (pl i)
def plist (pl : Nat → Int) : List Value := (List.range 6).map (plv pl)
theorem plist_length (pl : Nat → Int) : (plist pl).length = 6 := by simp [plist]
/-- three more of them -/
theorem Part.three {w : World} {b : Nat} {t : TypeId} {j : Nat} {f : Nat → Value} (h : Part w b t 6 (j * 3) f) (vs : List Value) (e : vs = [f (j * 3), f (j * 3 + 1), f (j * 3 + 2)]) : Part (w.setCells b (j * 3) vs) b t 6 ((j + 1) * 3) f := by
  obtain ⟨F, h1, h2⟩ := h
  have hl : vs.length = 3 := by rw [e]; rfl
  refine ⟨_, setCells_row vs h1, fun i hi => ?_⟩
  by_cases hlt : i < j * 3
  · rw [if_neg (by omega)]
    exact h2 i hlt
  · obtain ⟨c, rfl⟩ : ∃ c, i = j * 3 + c := ⟨i - j * 3, by omega⟩
    rw [if_pos (by omega), e, Nat.add_sub_cancel_left]
    match c, (by omega : c < 3) with
    | 0, _ => rfl
    | 1, _ => rfl
    | 2, _ => rfl
theorem Part.range {w : World} {b : Nat} {t : TypeId} {pl : Nat → Int} (h : Part w b t 6 6 (plv pl)) : w.rangeAt b 0 (plist pl) := fun j v hj => by
  have hj6 : j < 6 := by
    rcases Nat.lt_or_ge j 6 with h | h
    · exact h
    · rw [List.getElem?_eq_none (by rw [plist_length]; exact h)] at hj; cases hj
  obtain ⟨F, h1, h2⟩ := h
  have : v = plv pl j := by simpa [plist, hj6] using hj.symm
  rw [this, ← h2 j hj6, Nat.zero_add]
  exact h1.cell (by omega)

/-- the 31 cells, in the pieces in which they are put together -/
def Pc.site16 (x : Pc) : List Value := (List.range 16).map x.cell
theorem Pc.site16_length (x : Pc) : x.site16.length = 16 := by simp [Pc.site16]
theorem Pc.list_parts (x : Pc) : x.list = (x.site16 ++ [Value.int .u64 x.seq]) ++ [Value.int .i64 x.k, .slice x.ta x.tn x.tc, .int .u64 x.clock, .bool x.del, .slice x.ma x.mn x.mc, .int .i32 x.next] ++ plist x.pl ++ [Value.int .u64 x.pri, Value.int .i64 x.size] := rfl
theorem Pc.list_parts' (x : Pc) : x.list = ((x.site16 ++ [Value.int .u64 x.seq]) ++ [Value.int .i64 x.k]) ++ [Value.slice x.ta x.tn x.tc, .int .u64 x.clock, .bool x.del, .slice x.ma x.mn x.mc, .int .i32 x.next] ++ plist x.pl ++ [Value.int .u64 x.pri, Value.int .i64 x.size] := rfl
theorem Pc.range16 {w : World} {b o : Nat} {x : Pc} (h : ∀ f, f < 31 → w.cell? ⟨b, o + f, none⟩ = some (x.cell f)) : w.rangeAt b o x.site16 := fun j v hj => by
  have hj16 : j < 16 := by
    rcases Nat.lt_or_ge j 16 with h | h
    · exact h
    · rw [List.getElem?_eq_none (by rw [Pc.site16_length]; exact h)] at hj; cases hj
  have : v = x.cell j := by simpa [Pc.site16, hj16] using hj.symm
  rw [this]
  exact h j (by omega)
theorem Pc.range17 {w : World} {b o : Nat} {x : Pc} (h : ∀ f, f < 31 → w.cell? ⟨b, o + f, none⟩ = some (x.cell f)) : w.rangeAt b o (x.site16 ++ [Value.int .u64 x.seq]) := fun j v hj => by
  have hj17 : j < 17 := by
    rcases Nat.lt_or_ge j 17 with h | h
    · exact h
    · rw [List.getElem?_eq_none (by simp [Pc.site16_length]; exact h)] at hj; cases hj
  have e : x.site16 ++ [Value.int .u64 x.seq] = (List.range 17).map x.cell := rfl
  rw [e] at hj
  have : v = x.cell j := by simpa [hj17] using hj.symm
  rw [this]
  exact h j (by omega)
theorem Mk.range17 {w : World} {b o : Nat} {m : Mk} (h : ∀ f, f < 18 → w.cell? ⟨b, o + f, none⟩ = some (m.cell f)) : w.rangeAt b o ((List.range 17).map m.cell) := fun j v hj => by
  have hj17 : j < 17 := by
    rcases Nat.lt_or_ge j 17 with h | h
    · exact h
    · rw [List.getElem?_eq_none (by simpa using h)] at hj; cases hj
  have : v = m.cell j := by simpa [hj17] using hj.symm
  rw [this]
  exact h j (by omega)
theorem Try.size73 : (Try.prog.info? 73).map (·.size) = some 3 := by kernel_rfl
theorem Try.size118 : (Try.prog.info? 118).map (·.size) = some 3 := by kernel_rfl
theorem Try.size75 : (Try.prog.info? 75).map (·.size) = some 6 := by kernel_rfl
theorem Try.size119 : (Try.prog.info? 119).map (·.size) = some 6 := by kernel_rfl
theorem Try.size77' : (Try.prog.info? 77).map (·.size) = some 31 := by kernel_rfl
theorem Try.size121' : (Try.prog.info? 121).map (·.size) = some 31 := by kernel_rfl
theorem Try.size30 : (Try.prog.info? 30).map (·.size) = some 17 := by kernel_rfl
end Go.Proofs.Qxb6601797a
