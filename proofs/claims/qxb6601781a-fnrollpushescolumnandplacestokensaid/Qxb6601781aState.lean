/- Walks: ZZRoll, ZZScannerState, eqInts. -/
import Derived.Test.Qxb6601781aRoll
namespace Go.Proofs.Qxb6601781a
open Go.RowKit

set_option maxHeartbeats 400000 in
theorem zzroll_of {R m mi lo : Nat} {I K L : Nat → Int} {S : Nat → ByteArray} {hd tk ind fl : Int} (R0 : Nat) (col num kd line : Int) (w : World)
    (h : Calls Try.prog 23 #[.pointer (some ⟨R0, 0, none⟩), .int .i64 col, .int .i64 num, .int .u8 kd, .int .i64 line] w fun e w' => RetRoll w lo R m mi hd tk ind fl I K L S e w') :
    Calls Try.prog 17 #[.pointer (some ⟨R0, 0, none⟩), .int .i64 col, .int .i64 num, .int .u8 kd, .int .i64 line] w fun e w' => RetRoll w lo R m mi hd tk ind fl I K L S e w' := by
  go_enter Try.func17, Try.ntmps17
  go_wp2_with fail
  refine h.mono ?_
  rintro e w1 ⟨rfl, h1, h2⟩
  go_wp2
  go_end0
  exact ⟨rfl, h1, h2⟩

/-- what eqInts hands back where the two are the same -/
def RetSame (w : World) (e : Ending) (w' : World) : Prop := e = .returned (.bool true) ∧ Below w.heap.size w w'
theorem below_drewN {B : Nat} {w w1 : World} (h : Below B w w1) (n : Nat) : Below B w (w1.drewN n) := h.trans ⟨rfl, rfl, rfl, Nat.le_refl _, fun _ _ => rfl⟩

set_option maxHeartbeats 1000000 in
theorem same_any (a b : Option Addr) (k ca cb lo : Nat) (f g : Nat → Int) (w : World) (hk : k ≤ 65537) (hf : Row w lo a k (fun i => .int .i64 (f i))) (hg : Row w lo b k (fun i => .int .i64 (g i))) (hfg : ∀ i, i < k → f i = g i) :
    Calls Try.prog 19 #[.slice a k ca, .slice b k cb] w fun e w' => RetSame w e w' := by
  have hg' : Row w lo b k (fun i => .int .i64 (f i)) := hg.congr (fun i hi => by rw [hfg i hi])
  clear hg hfg
  obtain ⟨ba, oa, haa, hca⟩ := hf
  obtain ⟨bb, ob, hab, hcb⟩ := hg'
  go_enter Try.func19, Try.ntmps19
  go_wp2
  go_loopg [5] k (fun q s5 wr => ∃ i : Nat, i ≤ k ∧ q = k - i ∧ s5 = .int .i64 i ∧ Below w.heap.size w wr)
  case atStart => exact ⟨0, Nat.zero_le _, rfl, rfl, Below.refl _ _⟩
  case round =>
    obtain ⟨i, hi0, rfl, rfl, hB⟩ := hrel
    by_cases hi : i < k
    · obtain ⟨rfl, _⟩ := haa (by omega)
      obtain ⟨rfl, _⟩ := hab (by omega)
      have hb1 : ba < w.heap.size := World.block_lt_of_cell? _ _ (hca i hi)
      have hb2 : bb < w.heap.size := World.block_lt_of_cell? _ _ (hcb i hi)
      have h1 : wr.cell? ⟨ba, oa + i, none⟩ = some (.int .i64 (f i)) := (hB.cell (p := ⟨ba, oa + i, none⟩) hb1).trans (hca i hi)
      have h2 : wr.cell? ⟨bb, ob + i, none⟩ = some (.int .i64 (f i)) := (hB.cell (p := ⟨bb, ob + i, none⟩) hb2).trans (hcb i hi)
      have hiz : (i : Int) < (k : Int) := by omega
      go_wp2
      go_quiet (fail)
      go_wp2
      go_roundg (k - (i + 1))
      case measure => go_light; omega
      case rel => go_light; exact ⟨i + 1, by omega, rfl, by go_num, below_drewN hB _⟩
    · obtain rfl : k = i := by omega
      go_wp2
      go_ret
      exact ⟨rfl, hB⟩

/-- a row of n cells, the first k told -/
def Part (w : World) (b : Nat) (t : TypeId) (n k : Nat) (f : Nat → Value) : Prop := ∃ F, w.rowIs b t n F ∧ ∀ i, i < k → F i = f i
theorem Part.own {w : World} {b : Nat} {t : TypeId} {n k : Nat} {f : Nat → Value} (h : Part w b t n k f) {v : Value} (e : v = f k) : Part (w.setCell ⟨b, k, none⟩ v) b t n (k + 1) f := by
  obtain ⟨F, h1, h2⟩ := h
  refine ⟨_, h1.set k v, fun i hi => ?_⟩
  by_cases h : i = k
  · simp [h, e]
  · simp [h, h2 i (by omega)]
theorem Part.other {w : World} {b : Nat} {t : TypeId} {n k : Nat} {f : Nat → Value} (h : Part w b t n k f) {p : Addr} (hp : b ≠ p.block) (v : Value) : Part (w.setCell p v) b t n k f := by
  obtain ⟨F, h1, h2⟩ := h
  exact ⟨F, h1.of_block (Below.heap_setCell _ _ _ _ hp), h2⟩
theorem Part.row {w : World} {b : Nat} {t : TypeId} {n : Nat} {f : Nat → Value} (h : Part w b t n n f) {lo : Nat} (hl : lo ≤ b) : Row w lo (some ⟨b, 0, none⟩) n f := by
  obtain ⟨F, h1, h2⟩ := h
  exact (Row.of_rowIs h1 hl).congr h2
theorem Part.alloc {w : World} {b : Nat} {t : TypeId} {n k : Nat} {f : Nat → Value} (h : Part w b t n k f) (o : Obj) : Part (w.alloc o) b t n k f := by
  obtain ⟨F, h1, h2⟩ := h
  exact ⟨F, h1.of_block (Deep.blk_alloc_lt _ _ _ h1.lt), h2⟩

/-- six rows, the first k told -/
def Six (w : World) (B0 B1 B2 B3 B4 B5 n k : Nat) (K L : Nat → Int) (S : Nat → ByteArray) : Prop :=
  Part w B0 5 n k (fun i => .int .u8 (K i)) ∧ Part w B1 5 n k (fun _ => .int .u8 0) ∧ Part w B2 3 n k (fun i => .int .i64 (L i)) ∧
  Part w B3 9 n k (fun i => .string (S i)) ∧ Part w B4 9 n k (fun _ => .string ByteArray.empty) ∧ Part w B5 3 n k (fun _ => .int .i64 0)

theorem Six.step {w : World} {B0 B1 B2 B3 B4 B5 n k : Nat} {K L : Nat → Int} {S : Nat → ByteArray} (h : Six w B0 B1 B2 B3 B4 B5 n k K L S)
    (hne : B0 ≠ B1 ∧ B0 ≠ B2 ∧ B0 ≠ B3 ∧ B0 ≠ B4 ∧ B0 ≠ B5 ∧ B1 ≠ B2 ∧ B1 ≠ B3 ∧ B1 ≠ B4 ∧ B1 ≠ B5 ∧ B2 ≠ B3 ∧ B2 ≠ B4 ∧ B2 ≠ B5 ∧ B3 ≠ B4 ∧ B3 ≠ B5 ∧ B4 ≠ B5) :
    Six ((((((w.setCell ⟨B0, k, none⟩ (.int .u8 (K k))).setCell ⟨B1, k, none⟩ (.int .u8 0)).setCell ⟨B2, k, none⟩ (.int .i64 (L k))).setCell ⟨B3, k, none⟩ (.string (S k))).setCell ⟨B4, k, none⟩ (.string ByteArray.empty)).setCell ⟨B5, k, none⟩ (.int .i64 0)) B0 B1 B2 B3 B4 B5 n (k + 1) K L S := by
  obtain ⟨p0, p1, p2, p3, p4, p5⟩ := h
  obtain ⟨h1, h2, h3, h4, h5, h6, h7, h8, h9, h10, h11, h12, h13, h14, h15⟩ := hne
  refine ⟨?_, ?_, ?_, ?_, ?_, ?_⟩
  · exact (((((p0.own rfl).other h1 _).other h2 _).other h3 _).other h4 _).other h5 _
  · exact ((((((p1.other h1.symm _).own rfl).other h6 _).other h7 _).other h8 _).other h9 _)
  · exact ((((((p2.other h2.symm _).other h6.symm _).own rfl).other h10 _).other h11 _).other h12 _)
  · exact ((((((p3.other h3.symm _).other h7.symm _).other h10.symm _).own rfl).other h13 _).other h14 _)
  · exact ((((((p4.other h4.symm _).other h8.symm _).other h11.symm _).other h13.symm _).own rfl).other h15 _)
  · exact ((((((p5.other h5.symm _).other h9.symm _).other h12.symm _).other h14.symm _).other h15.symm _).own rfl)
theorem Part.fresh (w : World) (t : TypeId) (n : Nat) (z : Value) (f : Nat → Value) : Part (w.alloc (.cells (madeCells #[z] n) t)) w.heap.size t n 0 f :=
  ⟨fun j => (madeCells #[z] n).getD j default, ⟨_, Deep.blk_alloc_new _ _, size_madeCells _ _, fun i hi => by simp [madeCells, hi]⟩, fun i hi => absurd hi (Nat.not_lt_zero _)⟩
/-- what ZZScannerState hands back -/
def RetState (w : World) (lo m mi : Nat) (hd tk ind fl : Int) (I K L : Nat → Int) (S : Nat → ByteArray) (e : Ending) (w' : World) : Prop :=
  ∃ ai ci ak as' al av ah aj, e = .returned (.tuple #[.int .i64 fl, .int .i64 ind, .slice ai mi ci, .int .i64 hd, .int .i64 tk, .slice ak m m, .slice as' m m, .slice al m m, .slice av m m, .slice ah m m, .slice aj m m]) ∧
    Row w' lo ai mi (fun i => .int .i64 (I i)) ∧
    Row w' lo ak m (fun i => .int .u8 (K i)) ∧ Row w' lo as' m (fun _ => .int .u8 0) ∧ Row w' lo al m (fun i => .int .i64 (L i)) ∧
    Row w' lo av m (fun i => .string (S i)) ∧ Row w' lo ah m (fun _ => .string ByteArray.empty) ∧ Row w' lo aj m (fun _ => .int .i64 0) ∧ Below w.heap.size w w'

set_option maxHeartbeats 1000000 in
set_option maxRecDepth 100000 in
theorem state_any (R lo n mi : Nat) (hd tk ind fl : Int) (I K L : Nat → Int) (S : Nat → ByteArray) (w : World) (hn : n ≤ 65537) (hlo : lo ≤ w.heap.size)
    (hst : St w lo R n mi hd tk ind fl I K L S) :
    Calls Try.prog 18 #[.pointer (some ⟨R, 0, none⟩)] w fun e w' => RetState w lo n mi hd tk ind fl I K L S e w' := by
  obtain ⟨b, cap, ai, ci, hsc, hcap, ⟨F, hF, hFt⟩, hI⟩ := hst
  obtain ⟨c4, c5, c6, c8, c9, c10, hfz⟩ := sc_cells hsc
  have hRlt : R < w.heap.size := (Array.getElem?_eq_some_iff.1 hsc).1
  have hblt : b < w.heap.size := hF.lt
  have hmk3 := run_make_row' (P := Try.prog) 29 3 (.int .i64 0) 8 Try.underlying29 Try.info3 rfl .i64 .i64 n (by omega) (by omega)
  have hmk5 := run_make_row' (P := Try.prog) 22 5 (.int .u8 0) 1 Try.underlying22 Try.info5 rfl .i64 .i64 n (by omega) (by omega)
  have hmk9 := run_make_row' (P := Try.prog) 30 9 (.string ByteArray.empty) 16 Try.underlying30 Try.info9 rfl .i64 .i64 n (by omega) (by omega)
  go_enter Try.func18, Try.ntmps18
  go_wp2
  clear hmk3 hmk5 hmk9
  obtain ⟨B0, hB0⟩ : ∃ x, w.heap.size = x := ⟨_, rfl⟩
  obtain ⟨B1, hB1⟩ : ∃ x, B0 + 1 = x := ⟨_, rfl⟩
  obtain ⟨B2, hB2⟩ : ∃ x, B1 + 1 = x := ⟨_, rfl⟩
  obtain ⟨B3, hB3⟩ : ∃ x, B2 + 1 = x := ⟨_, rfl⟩
  obtain ⟨B4, hB4⟩ : ∃ x, B3 + 1 = x := ⟨_, rfl⟩
  obtain ⟨B5, hB5⟩ : ∃ x, B4 + 1 = x := ⟨_, rfl⟩
  rw [hB0, hB1, hB2, hB3, hB4, hB5]
  have hsix : ∃ W, W = ((((((w.alloc (Obj.cells (madeCells #[Value.int IntKind.u8 0] n) 5)).alloc
                      (Obj.cells (madeCells #[Value.int IntKind.u8 0] n) 5)).alloc
                  (Obj.cells (madeCells #[Value.int IntKind.i64 0] n) 3)).alloc
              (Obj.cells (madeCells #[Value.string ByteArray.empty] n) 9)).alloc
          (Obj.cells (madeCells #[Value.string ByteArray.empty] n) 9)).alloc
      (Obj.cells (madeCells #[Value.int IntKind.i64 0] n) 3)) ∧ Six W B0 B1 B2 B3 B4 B5 n 0 K L S ∧ Below w.heap.size w W := by
    refine ⟨_, rfl, ⟨?_, ?_, ?_, ?_, ?_, ?_⟩, ?_⟩
    · subst hB0; exact (((((Part.fresh _ _ _ _ _).alloc _).alloc _).alloc _).alloc _).alloc _
    · rw [show B1 = (w.alloc (Obj.cells (madeCells #[Value.int IntKind.u8 0] n) 5)).heap.size by simp; omega]; exact ((((Part.fresh _ _ _ _ _).alloc _).alloc _).alloc _).alloc _
    · rw [show B2 = ((w.alloc (Obj.cells (madeCells #[Value.int IntKind.u8 0] n) 5)).alloc (Obj.cells (madeCells #[Value.int IntKind.u8 0] n) 5)).heap.size by simp; omega]; exact (((Part.fresh _ _ _ _ _).alloc _).alloc _).alloc _
    · rw [show B3 = (((w.alloc (Obj.cells (madeCells #[Value.int IntKind.u8 0] n) 5)).alloc (Obj.cells (madeCells #[Value.int IntKind.u8 0] n) 5)).alloc (Obj.cells (madeCells #[Value.int IntKind.i64 0] n) 3)).heap.size by simp; omega]; exact ((Part.fresh _ _ _ _ _).alloc _).alloc _
    · rw [show B4 = ((((w.alloc (Obj.cells (madeCells #[Value.int IntKind.u8 0] n) 5)).alloc (Obj.cells (madeCells #[Value.int IntKind.u8 0] n) 5)).alloc (Obj.cells (madeCells #[Value.int IntKind.i64 0] n) 3)).alloc (Obj.cells (madeCells #[Value.string ByteArray.empty] n) 9)).heap.size by simp; omega]; exact (Part.fresh _ _ _ _ _).alloc _
    · rw [show B5 = (((((w.alloc (Obj.cells (madeCells #[Value.int IntKind.u8 0] n) 5)).alloc (Obj.cells (madeCells #[Value.int IntKind.u8 0] n) 5)).alloc (Obj.cells (madeCells #[Value.int IntKind.i64 0] n) 3)).alloc (Obj.cells (madeCells #[Value.string ByteArray.empty] n) 9)).alloc (Obj.cells (madeCells #[Value.string ByteArray.empty] n) 9)).heap.size by simp; omega]; exact Part.fresh _ _ _ _ _
    · have h0 : Below w.heap.size w w := Below.refl _ _
      exact (((((h0.alloc (Nat.le_refl _) _).alloc (by simp) _).alloc (by simp; omega) _).alloc (by simp; omega) _).alloc (by simp; omega) _).alloc (by simp; omega) _
  obtain ⟨W, hW, hsx, hBW⟩ := hsix
  rw [← hW]
  clear hW
  have hb0 : w.heap.size ≤ B0 := by omega
  have hb1 : w.heap.size ≤ B1 := by omega
  have hb2 : w.heap.size ≤ B2 := by omega
  have hb3 : w.heap.size ≤ B3 := by omega
  have hb4 : w.heap.size ≤ B4 := by omega
  have hb5 : w.heap.size ≤ B5 := by omega
  have hne : B0 ≠ B1 ∧ B0 ≠ B2 ∧ B0 ≠ B3 ∧ B0 ≠ B4 ∧ B0 ≠ B5 ∧ B1 ≠ B2 ∧ B1 ≠ B3 ∧ B1 ≠ B4 ∧ B1 ≠ B5 ∧ B2 ≠ B3 ∧ B2 ≠ B4 ∧ B2 ≠ B5 ∧ B3 ≠ B4 ∧ B3 ≠ B5 ∧ B4 ≠ B5 := by omega
  clear hB0 hB1 hB2 hB3 hB4 hB5
  go_loopg [20] n (fun q s20 wr => ∃ k : Nat, k ≤ n ∧ q = n - k ∧ s20 = .int .i64 k ∧ Six wr B0 B1 B2 B3 B4 B5 n k K L S ∧ Below w.heap.size w wr)
  case atStart => exact ⟨0, Nat.zero_le _, rfl, rfl, hsx, hBW⟩
  case round =>
    obtain ⟨k, hk0, rfl, rfl, hsx', hB⟩ := hrel
    clear hsx hBW
    have d4 : wr.cell? ⟨R, 4, none⟩ = _ := (hB.cell (p := ⟨R, 4, none⟩) hRlt).trans c4
    by_cases hk : k < n
    · have hkz : (k : Int) < (n : Int) := by omega
      have g0 : wr.cell? ⟨b, k * 6, none⟩ = some (.int .u8 (K k)) := (hB.cell (p := ⟨b, k * 6, none⟩) hblt).trans ((hF.cell (i := k * 6) (by omega)).trans (by rw [show k * 6 = k * 6 + 0 by omega, hFt k hk 0 (by omega)]; rfl))
      have g1 : wr.cell? ⟨b, k * 6 + 1, none⟩ = some (.int .u8 0) := (hB.cell (p := ⟨b, k * 6 + 1, none⟩) hblt).trans ((hF.cell (i := k * 6 + 1) (by omega)).trans (by rw [hFt k hk 1 (by omega)]; rfl))
      have g2 : wr.cell? ⟨b, k * 6 + 2, none⟩ = some (.int .i64 (L k)) := (hB.cell (p := ⟨b, k * 6 + 2, none⟩) hblt).trans ((hF.cell (i := k * 6 + 2) (by omega)).trans (by rw [hFt k hk 2 (by omega)]; rfl))
      have g3 : wr.cell? ⟨b, k * 6 + 3, none⟩ = some (.string (S k)) := (hB.cell (p := ⟨b, k * 6 + 3, none⟩) hblt).trans ((hF.cell (i := k * 6 + 3) (by omega)).trans (by rw [hFt k hk 3 (by omega)]; rfl))
      have g4 : wr.cell? ⟨b, k * 6 + 4, none⟩ = some (.string ByteArray.empty) := (hB.cell (p := ⟨b, k * 6 + 4, none⟩) hblt).trans ((hF.cell (i := k * 6 + 4) (by omega)).trans (by rw [hFt k hk 4 (by omega)]; rfl))
      have g5 : wr.cell? ⟨b, k * 6 + 5, none⟩ = some (.int .i64 0) := (hB.cell (p := ⟨b, k * 6 + 5, none⟩) hblt).trans ((hF.cell (i := k * 6 + 5) (by omega)).trans (by rw [hFt k hk 5 (by omega)]; rfl))
      have HS : Hid (Six wr B0 B1 B2 B3 B4 B5 n k K L S) := hsx'
      obtain ⟨p0, p1, p2, p3, p4, p5⟩ := hsx'
      obtain ⟨F0, q0, r0⟩ := p0
      obtain ⟨F1, q1, r1⟩ := p1
      obtain ⟨F2, q2, r2⟩ := p2
      obtain ⟨F3, q3, r3⟩ := p3
      obtain ⟨F4, q4, r4⟩ := p4
      obtain ⟨F5, q5, r5⟩ := p5
      have y0 := q0.cell hk
      have y1 := q1.cell hk
      have y2 := q2.cell hk
      have y3 := q3.cell hk
      have y4 := q4.cell hk
      have y5 := q5.cell hk
      have z0 := q0.frozen k
      have z1 := q1.frozen k
      have z2 := q2.frozen k
      have z3 := q3.frozen k
      have z4 := q4.frozen k
      have z5 := q5.frozen k
      have hRn : R ≠ B0 ∧ R ≠ B1 ∧ R ≠ B2 ∧ R ≠ B3 ∧ R ≠ B4 ∧ R ≠ B5 := by omega
      have hbn : b ≠ B0 ∧ b ≠ B1 ∧ b ≠ B2 ∧ b ≠ B3 ∧ b ≠ B4 ∧ b ≠ B5 := by omega
      go_wp2
      go_roundg (n - (k + 1))
      case measure => go_light; omega
      case rel =>
        go_light
        refine ⟨k + 1, by omega, rfl, by go_num, Six.step HS hne, ?_⟩
        exact (((((hB.setCell (p := ⟨B0, k, none⟩) hb0 _).setCell (p := ⟨B1, k, none⟩) hb1 _).setCell (p := ⟨B2, k, none⟩) hb2 _).setCell (p := ⟨B3, k, none⟩) hb3 _).setCell (p := ⟨B4, k, none⟩) hb4 _).setCell (p := ⟨B5, k, none⟩) hb5 _
    · obtain rfl : n = k := by omega
      have d5 : wr.cell? ⟨R, 5, none⟩ = _ := (hB.cell (p := ⟨R, 5, none⟩) hRlt).trans c5
      have d6 : wr.cell? ⟨R, 6, none⟩ = _ := (hB.cell (p := ⟨R, 6, none⟩) hRlt).trans c6
      have d8 : wr.cell? ⟨R, 8, none⟩ = _ := (hB.cell (p := ⟨R, 8, none⟩) hRlt).trans c8
      have d9 : wr.cell? ⟨R, 9, none⟩ = _ := (hB.cell (p := ⟨R, 9, none⟩) hRlt).trans c9
      have d10 : wr.cell? ⟨R, 10, none⟩ = _ := (hB.cell (p := ⟨R, 10, none⟩) hRlt).trans c10
      go_wp2
      go_quiet (fail)
      go_wp2
      (try simp only [Exit.inBlock, Exit.then])
      refine bodyPost_ret (v := .tuple #[.int .i64 fl, .int .i64 ind, .slice ai mi ci, .int .i64 hd, .int .i64 tk, .slice (some ⟨B0, 0, none⟩) n n, .slice (some ⟨B1, 0, none⟩) n n, .slice (some ⟨B2, 0, none⟩) n n, .slice (some ⟨B3, 0, none⟩) n n, .slice (some ⟨B4, 0, none⟩) n n, .slice (some ⟨B5, 0, none⟩) n n]) (by simp [results, Try.results18, go_sem]) rfl ?_
      have hB' := below_drewN hB nq
      obtain ⟨p0, p1, p2, p3, p4, p5⟩ := hsx'
      exact ⟨ai, ci, _, _, _, _, _, _, rfl, hI.below (Nat.le_refl _) hB', Part.row p0 (Nat.le_trans hlo hb0), Part.row p1 (Nat.le_trans hlo hb1), Part.row p2 (Nat.le_trans hlo hb2), Part.row p3 (Nat.le_trans hlo hb3), Part.row p4 (Nat.le_trans hlo hb4), Part.row p5 (Nat.le_trans hlo hb5), hB'⟩
end Go.Proofs.Qxb6601781a
