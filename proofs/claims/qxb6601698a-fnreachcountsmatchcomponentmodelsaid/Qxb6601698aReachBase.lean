/- (Links).Reach: the plain functions that it computes, and words on its memory. No walk here. -/
import Derived.Test.Qxb6601698aNext
namespace Go.Proofs.Qxb6601698a
open Go.RowKit Go.Maps

/-! ### plain functions -/
/-- one more at c -/
def bump (f : Nat → Int) (c : Nat) : Nat → Int := fun j => if j = c then wrap64 (f c + 1) else f j
def toInt : DataW Unit → Int
  | .lit (.int _ c) => c
  | _ => 0
/-- the number that the map gives a name -/
def numIx (D : DataW Unit) (s : ByteArray) : Nat := (toInt (D.atKey (kl s) (I 0))).toNat
/-- the counts of the group's first i names -/
def gcnt (D : DataW Unit) (Cm : Nat → Int) (G : Nat → ByteArray) : Nat → Nat → Int
  | 0 => fun _ => 0
  | i + 1 => if Maps.has D (kl (G i)) then bump (gcnt D Cm G i) (Cm (numIx D (G i))).toNat else gcnt D Cm G i
/-- the unknown names among them, counted -/
def othr (D : DataW Unit) (G : Nat → ByteArray) : Nat → DataW Unit
  | 0 => .map []
  | i + 1 => if Maps.has D (kl (G i)) then othr D G i else (othr D G i).put (kl (G i)) (I (wrap64 (toInt ((othr D G i).atKey (kl (G i)) (I 0)) + 1)))
def bumps (f : Nat → Int) (xs : List Int) : Nat → Int := xs.foldl (fun f d => bump f d.toNat) f
/-- what one component hands on -/
def proc (f : Nat → Int) (c : Nat) (xs : List Int) : Nat → Int := if 0 < f c then bumps f xs else f
/-- the sweep down, t components done -/
def dnAt (k : Nat) (nx : Nat → List Int) (f : Nat → Int) : Nat → Nat → Int
  | 0 => f
  | t + 1 => proc (dnAt k nx f t) (k - 1 - t) (nx (k - 1 - t))
/-- the sweep up -/
def upAt (nx : Nat → List Int) (f : Nat → Int) : Nat → Nat → Int
  | 0 => f
  | t + 1 => proc (upAt nx f t) t (nx t)

/-- The call's own memory: the box of l, the Reach, its counts, its map, its stack. -/
structure RI (w wx : World) (L : List Value) (k R bd bu bo base : Nat) (dn up : Nat → Int) (OD : DataW Unit) (m : Nat) (stk : Value) : Prop where
  box : wx.heap[w.heap.size]? = some (.cells L.toArray 34 (0, 0))
  st : wx.heap[R]? = some (.cells (L ++ [Value.slice (some ⟨bd, 0, none⟩) k k, .slice (some ⟨bu, 0, none⟩) k k, .map (some bo), stk]).toArray 64 (0, 0))
  down : wx.rowIs bd 3 k (fun c => .int .i64 (dn c))
  up : wx.rowIs bu 3 k (fun c => .int .i64 (up c))
  oth : wx.ownsMap Try.prog 9 (plainElem Try.prog 3) bo m OD
  below : Below w.heap.size w wx
  size : base ≤ wx.heap.size
/-- where they lie -/
structure Lie (w : World) (R bd bu bo base : Nat) : Prop where
  h1 : w.heap.size < R ∧ w.heap.size < bd ∧ w.heap.size < bu ∧ w.heap.size < bo
  h2 : R < base ∧ bd < base ∧ bu < base ∧ bo < base
  h3 : R ≠ bd ∧ R ≠ bu ∧ R ≠ bo ∧ bd ≠ bu ∧ bd ≠ bo ∧ bu ≠ bo

theorem heap5 (w : World) (o0 o1 o2 o3 o4 : Obj) :
    let W := (((((w.alloc o0).alloc o1).alloc o2).alloc o3).alloc o4).drew
    W.heap.size = w.heap.size + 5 ∧ W.heap[w.heap.size]? = some o0 ∧ W.heap[w.heap.size + 1]? = some o1 ∧ W.heap[w.heap.size + 1 + 1]? = some o2 ∧ W.heap[w.heap.size + 1 + 1 + 1]? = some o3 ∧ W.heap[w.heap.size + 1 + 1 + 1 + 1]? = some o4 ∧ Below w.heap.size w W := by
  intro W
  have hW : W.heap = ((((w.heap.push o0).push o1).push o2).push o3).push o4 := rfl
  refine ⟨by simp [hW], ?_, ?_, ?_, ?_, ?_, ?_⟩
  · rw [hW]; simp only [Array.getElem?_push, Array.size_push]; rw [if_neg (by omega), if_neg (by omega), if_neg (by omega), if_neg (by omega), if_pos trivial]
  · rw [hW]; simp only [Array.getElem?_push, Array.size_push]; rw [if_neg (by omega), if_neg (by omega), if_neg (by omega), if_pos trivial]
  · rw [hW]; simp only [Array.getElem?_push, Array.size_push]; rw [if_neg (by omega), if_neg (by omega), if_pos trivial]
  · rw [hW]; simp only [Array.getElem?_push, Array.size_push]; rw [if_neg (by omega), if_pos trivial]
  · rw [hW]; simp only [Array.getElem?_push, Array.size_push]; rw [if_pos trivial]
  · exact ((((((Below.refl _ w).alloc (Nat.le_refl _) _).alloc (by simp) _).alloc (by simp; omega) _).alloc (by simp; omega) _).alloc (by simp; omega) _).drew
theorem RI.init {w wx : World} {L : List Value} {k R bd bu bo : Nat} (hbox : wx.heap[w.heap.size]? = some (.cells L.toArray 34))
    (hst : wx.heap[R]? = some (.cells (L ++ [Value.slice (some ⟨bd, 0, none⟩) k k, .slice (some ⟨bu, 0, none⟩) k k, .map (some bo), .slice none 0 0]).toArray 64))
    (hd : wx.heap[bd]? = some (.cells (madeCells #[.int .i64 0] k) 3)) (hu : wx.heap[bu]? = some (.cells (madeCells #[.int .i64 0] k) 3)) (ho : wx.heap[bo]? = some (.map #[] 0)) (hb : Below w.heap.size w wx) :
    RI w wx L k R bd bu bo wx.heap.size (fun _ => 0) (fun _ => 0) (.map []) 0 (.slice none 0 0) := by
  have row : ∀ b, wx.heap[b]? = some (.cells (madeCells #[.int .i64 0] k) 3) → wx.rowIs b 3 k (fun _ => .int .i64 0) := fun b h =>
    ⟨_, h, size_madeCells _ _, fun i hi => by simp [madeCells, hi, Nat.mod_one]⟩
  exact ⟨hbox, hst, row _ hd, row _ hu, ⟨#[], 0, ho, ⟨by simp, MapKept.stamped_empty 0, by simp⟩, Nat.le_refl _, rfl⟩, hb, Nat.le_refl _⟩


theorem RI.drew {w wx : World} {L : List Value} {k R bd bu bo base : Nat} {dn up : Nat → Int} {OD : DataW Unit} {m : Nat} {stk : Value} (h : RI w wx L k R bd bu bo base dn up OD m stk) : RI w wx.drew L k R bd bu bo base dn up OD m stk :=
  ⟨h.box, h.st, h.down, h.up, h.oth, h.below.drew, h.size⟩
theorem RI.bumpD {w wx : World} {L : List Value} {k R bd bu bo base : Nat} {dn up : Nat → Int} {OD : DataW Unit} {m : Nat} {stk : Value} (hL : Lie w R bd bu bo base) (h : RI w wx L k R bd bu bo base dn up OD m stk) (c : Nat) :
    RI w (wx.setCell ⟨bd, c, none⟩ (.int .i64 (wrap64 (dn c + 1)))) L k R bd bu bo base (bump dn c) up OD m stk := by
  obtain ⟨h1, h2, h3⟩ := hL
  refine ⟨?_, ?_, (h.down.set c _).congr (fun i _ => ?_), h.up.setOther (by show bu ≠ bd; omega) _, h.oth.setCell (by show bo ≠ bd; omega) _, h.below.setCell (by show w.heap.size ≤ bd; omega) _, by simpa using h.size⟩
  · rw [Below.heap_setCell _ _ _ _ (by show w.heap.size ≠ bd; omega)]; exact h.box
  · rw [Below.heap_setCell _ _ _ _ (by show R ≠ bd; omega)]; exact h.st
  · unfold bump; split <;> rfl
theorem RI.bumpU {w wx : World} {L : List Value} {k R bd bu bo base : Nat} {dn up : Nat → Int} {OD : DataW Unit} {m : Nat} {stk : Value} (hL : Lie w R bd bu bo base) (h : RI w wx L k R bd bu bo base dn up OD m stk) (c : Nat) :
    RI w (wx.setCell ⟨bu, c, none⟩ (.int .i64 (wrap64 (up c + 1)))) L k R bd bu bo base dn (bump up c) OD m stk := by
  obtain ⟨h1, h2, h3⟩ := hL
  refine ⟨?_, ?_, h.down.setOther (by show bd ≠ bu; omega) _, (h.up.set c _).congr (fun i _ => ?_), h.oth.setCell (by show bo ≠ bu; omega) _, h.below.setCell (by show w.heap.size ≤ bu; omega) _, by simpa using h.size⟩
  · rw [Below.heap_setCell _ _ _ _ (by show w.heap.size ≠ bu; omega)]; exact h.box
  · rw [Below.heap_setCell _ _ _ _ (by show R ≠ bu; omega)]; exact h.st
  · unfold bump; split <;> rfl
theorem RI.other {w wx w1 : World} {L : List Value} {k R bd bu bo base : Nat} {dn up : Nat → Int} {OD OD' : DataW Unit} {m m' : Nat} {stk : Value} (hL : Lie w R bd bu bo base) (h : RI w wx L k R bd bu bo base dn up OD m stk)
    (ho : w1.ownsMap Try.prog 9 (plainElem Try.prog 3) bo m' OD') (hg : wx.grownBy w1 (some bo)) : RI w w1 L k R bd bu bo base dn up OD' m' stk := by
  obtain ⟨h1, h2, h3⟩ := hL
  have hs := h.size
  have hb : ∀ b, b < base → b ≠ bo → w1.heap[b]? = wx.heap[b]? := fun b hb hne => hg.block b (by omega) (by simpa using hne)
  exact ⟨(hb _ (by omega) (by omega)).trans h.box, (hb R (by omega) (by omega)).trans h.st, h.down.of_block (hb bd (by omega) (by omega)), h.up.of_block (hb bu (by omega) (by omega)), ho,
    h.below.grown hg (by have := h.below.size; omega) (fun k hk => by cases hk; omega), Nat.le_trans hs hg.size⟩
/-- 'r.stack = l.nextComponents(..)' -/
theorem RI.stack {w wx w1 : World} {L : List Value} {k R bd bu bo base : Nat} {dn up : Nat → Int} {OD : DataW Unit} {m : Nat} {stk tv v : Value} (hL : Lie w R bd bu bo base) (h : RI w wx L k R bd bu bo base dn up OD m stk)
    (ht : ∀ b, tv.ownBlock = some b → base ≤ b) (hg : Grow wx tv w1 v) (hlen : L.length = 6) : RI w (w1.setCell ⟨R, 9, none⟩ v) L k R bd bu bo base dn up OD m v := by
  obtain ⟨h1, h2, h3⟩ := hL
  have hs := h.size
  have hb : ∀ b, b < base → w1.heap[b]? = wx.heap[b]? := fun b hb => hg.g.block b (by omega) (fun e => by have := ht b e.symm; omega)
  refine ⟨?_, ?_, ?_, ?_, ?_, ?_, ?_⟩
  · rw [Below.heap_setCell _ _ _ _ (by show w.heap.size ≠ R; omega)]; exact (hb _ (by omega)).trans h.box
  · simp only [World.setCell, Array.getElem?_modify, if_true, hb R (by omega), h.st]
    simp [hlen]
  · exact (h.down.of_block (hb bd (by omega))).setOther (by show bd ≠ R; omega) _
  · exact (h.up.of_block (hb bu (by omega))).setOther (by show bu ≠ R; omega) _
  · refine World.ownsMap.setCell ?_ (by show bo ≠ R; omega) _
    obtain ⟨es, clock, e1, r⟩ := h.oth
    exact ⟨es, clock, (hb bo (by omega)).trans e1, r⟩
  · exact (h.below.grown hg.g (by have := h.below.size; omega) (fun k hk => by have := ht k hk; omega)).setCell (by show w.heap.size ≤ R; omega) _
  · have := hg.g.size; simp; omega
theorem RI.cells {w wx : World} {a0 a1 a2 a3 a4 a5 : Value} {k R bd bu bo base : Nat} {dn up : Nat → Int} {OD : DataW Unit} {m : Nat} {stk : Value} (h : RI w wx [a0, a1, a2, a3, a4, a5] k R bd bu bo base dn up OD m stk) :
    (wx.cell? ⟨w.heap.size, 0, none⟩ = some a0 ∧ wx.cell? ⟨w.heap.size, 1, none⟩ = some a1 ∧ wx.cell? ⟨w.heap.size, 2, none⟩ = some a2 ∧ wx.cell? ⟨w.heap.size, 3, none⟩ = some a3 ∧ wx.cell? ⟨w.heap.size, 4, none⟩ = some a4 ∧ wx.cell? ⟨w.heap.size, 5, none⟩ = some a5) ∧
    (wx.cell? ⟨R, 6, none⟩ = some (.slice (some ⟨bd, 0, none⟩) k k) ∧ wx.cell? ⟨R, 7, none⟩ = some (.slice (some ⟨bu, 0, none⟩) k k) ∧ wx.cell? ⟨R, 8, none⟩ = some (.map (some bo)) ∧ wx.cell? ⟨R, 9, none⟩ = some stk ∧ wx.frozen? ⟨R, 9, none⟩ = false) := by
  have h1 := h.box
  have h2 := h.st
  simp [World.cell?, World.frozen?, h1, h2]
/-- what Reach hands back -/
def RetReach (w : World) (k : Nat) (dn up : Nat → Int) (OD : DataW Unit) (e : Ending) (w' : World) : Prop :=
  ∃ R bd bu bo, e = .returned (.pointer (some ⟨R, 0, none⟩)) ∧ w'.cell? ⟨R, 6, none⟩ = some (.slice (some ⟨bd, 0, none⟩) k k) ∧ w'.cell? ⟨R, 7, none⟩ = some (.slice (some ⟨bu, 0, none⟩) k k) ∧ w'.cell? ⟨R, 8, none⟩ = some (.map (some bo)) ∧
    Row w' w.heap.size (some ⟨bd, 0, none⟩) k (fun c => .int .i64 (dn c)) ∧ Row w' w.heap.size (some ⟨bu, 0, none⟩) k (fun c => .int .i64 (up c)) ∧ MapAt w' w.heap.size (.map (some bo)) OD ∧ Below w.heap.size w w'
/-- A row that is owned: its value's shape, and its cells. -/
theorem owned_shape {w : World} {base : Nat} {v : Value} {xs : List Int} (h : w.ownsRow base 3 1 v xs.length (xs.map (Value.int .i64))) :
    ∃ a cap, v = .slice a xs.length cap ∧ Row w base a xs.length (fun i => .int .i64 (xs.getD i 0)) := by
  rcases h.2 with ⟨rfl, h0⟩ | ⟨g, cap, cur, rfl, hg, hh, hn, hc, hs, ht⟩
  · refine ⟨none, 0, by rw [h0], ?_⟩
    rw [h0]; exact Row.zero _ _ _ _
  · refine ⟨_, cap, rfl, g, 0, fun _ => ⟨rfl, hg⟩, fun i hi => ?_⟩
    have h1 := h.cellAt i (by omega)
    simp only [Nat.zero_add]
    rw [h1]
    simp [List.getElem?_eq_getElem hi]
/-- 's[:0]' of an owned row -/
theorem owned_cut {w : World} {base n : Nat} {xs : List Value} {g cap : Nat} (h : w.ownsRow base 3 1 (.slice (some ⟨g, 0, none⟩) n cap) n xs) : w.ownsRow base 3 1 (.slice (some ⟨g, 0, none⟩) 0 cap) 0 [] := by
  rcases h.2 with ⟨h0, _⟩ | ⟨g', cap', cur, hv, hg, hh, hn, hc, hs, ht⟩
  · cases h0
  · cases hv
    exact ⟨by simp, .inr ⟨g, cap, cur, rfl, hg, hh, Nat.zero_le _, hc, hs, by simp⟩⟩
theorem owned_cut' {w : World} {base n : Nat} {xs : List Value} {a : Option Addr} {cap : Nat} (h : w.ownsRow base 3 1 (.slice a n cap) n xs) : w.ownsRow base 3 1 (.slice a 0 cap) 0 [] := by
  rcases h.2 with ⟨h0, _⟩ | ⟨g', cap', cur, hv, hg, hh, hn, hc, hs, ht⟩
  · simp only [Value.slice.injEq] at h0
    obtain ⟨rfl, _, rfl⟩ := h0
    exact World.ownsRow_nil _ _ _ _
  · simp only [Value.slice.injEq, true_and] at hv
    obtain ⟨rfl, rfl⟩ := hv
    exact ⟨by simp, .inr ⟨g', cap, cur, rfl, hg, hh, Nat.zero_le _, hc, hs, by simp⟩⟩
theorem run_cut0 (a : Option Addr) (n cap : Nat) (w : World) : (Instr.slice 25 (.slice a n cap) none (some (.int .i64 0)) none).run Try.prog w = .ok (.slice a 0 cap) w := by
  have hs : (sizeOf 3).run Try.prog w = .ok 1 w := by kernel_rfl
  have e : (if cap = 0 then a else a.map (·.add (0 * 1))) = a := by
    split
    · rfl
    · cases a <;> simp [Addr.add]
  simp [Instr.slice, Instr.sliceBounds, Instr.sliceBound, run_underlying Try.underlying25, asIntOf, hs, Result.andThen]
  cases a <;> simp [Addr.add]
/-- behind the call of nextComponents the Reach's own cells are as they were -/
theorem RI.after {w wx w1 : World} {a0 a1 a2 a3 a4 a5 : Value} {k R bd bu bo base : Nat} {dn up : Nat → Int} {OD : DataW Unit} {m : Nat} {stk tv v : Value} (hL : Lie w R bd bu bo base) (h : RI w wx [a0, a1, a2, a3, a4, a5] k R bd bu bo base dn up OD m stk)
    (ht : ∀ b, tv.ownBlock = some b → base ≤ b) (hg : Grow wx tv w1 v) : w1.cell? ⟨R, 9, none⟩ = some stk ∧ w1.frozen? ⟨R, 9, none⟩ = false := by
  obtain ⟨_, h2, _⟩ := hL
  have hs := h.size
  have hb : w1.heap[R]? = wx.heap[R]? := hg.g.block R (by omega) (fun e => by have := ht R e.symm; omega)
  obtain ⟨_, _, _, _, e1, e2⟩ := h.cells
  exact ⟨(World.cell?_of_block (a := ⟨R, 9, none⟩) hb).trans e1, (World.frozen?_of_block (a := ⟨R, 9, none⟩) hb).trans e2⟩
theorem nextRow_mem {Cm : Nat → Int} {c : Int} {Z : Nat → Int} {t n k : Nat} (hc : ∀ v, v < n → 0 ≤ Cm v ∧ Cm v < k) (hz : ∀ j, j < t → 0 ≤ Z j ∧ Z j < n) : ∀ y ∈ nextRow Cm c Z t, 0 ≤ y ∧ y < k := by
  induction t with
  | zero => simp [nextRow]
  | succ t ih =>
    intro y hy
    simp only [nextRow, List.mem_append] at hy
    rcases hy with hy | hy
    · exact ih (fun j hj => hz j (by omega)) y hy
    · split at hy
      · simp at hy
      · simp only [List.mem_singleton] at hy
        have := hz t (by omega)
        rw [hy]
        exact hc _ (by omega)
theorem nextAll_mem {Cm : Nat → Int} {c : Nat} {Ls : Nat → Nat} {Zs : Nat → Nat → Int} {Zc : Nat → Int} {j n k : Nat} (hc : ∀ v, v < n → 0 ≤ Cm v ∧ Cm v < k) (hm : ∀ i, i < j → 0 ≤ Zc i ∧ Zc i < n) (hs : ∀ v, v < n → ∀ i, i < Ls v → 0 ≤ Zs v i ∧ Zs v i < n) :
    ∀ y ∈ nextAll Cm c Ls Zs Zc j, 0 ≤ y ∧ y < k := by
  induction j with
  | zero => simp [nextAll]
  | succ j ih =>
    intro y hy
    simp only [nextAll, List.mem_append] at hy
    rcases hy with hy | hy
    · exact ih (fun i hi => hm i (by omega)) y hy
    · have := hm j (by omega)
      exact nextRow_mem hc (hs _ (by omega)) y hy
theorem bumps_take (f : Nat → Int) (ys : List Int) (t d : Nat) (ht : t < ys.length) (hd : ys.getD t 0 = d) : bumps f (ys.take (t + 1)) = bump (bumps f (ys.take t)) d := by
  unfold bumps
  rw [List.take_succ_eq_append_getElem ht, List.foldl_append]
  have e : ys[t] = d := by rw [← hd]; simp [List.getElem?_eq_getElem ht]
  simp [e]
end Go.Proofs.Qxb6601698a
