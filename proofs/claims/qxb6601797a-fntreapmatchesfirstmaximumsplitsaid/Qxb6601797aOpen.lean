/- From the row's readings of the arguments to 'Data' and 'Row'. -/
import Derived.Test.Qxb6601797aPrem
import Derived.ProofKit
import Derived.OpenShut
import Derived.Deep.Slices
namespace Go.Proofs.Qxb6601797a
open Go.RowKit Go.WideShapes Go.Deep Go.ChangeShapes

variable {H : Type} {enc : TypeId × Value → H} {W : World} {d : DataW H} {p : List MemPlace} {x : DataW H × List MemPlace} {base m : Nat} {sp : Nat → Bool} {hd : Bool} {cs : List Value}

theorem cells3 : Try.prog.cellsOf 3 = 1 := by kernel_rfl
theorem cells4 : Try.prog.cellsOf 4 = 1 := by kernel_rfl
theorem cells5 : Try.prog.cellsOf 5 = 1 := by kernel_rfl
theorem cells21 : Try.prog.cellsOf 21 = 1 := by kernel_rfl
theorem cells22 : Try.prog.cellsOf 22 = 16 := by kernel_rfl
theorem cells23 : Try.prog.cellsOf 23 = 1 := by kernel_rfl
theorem cells52 : Try.prog.cellsOf 52 = 1 := by kernel_rfl
theorem cells66 : Try.prog.cellsOf 66 = 3 := by kernel_rfl
theorem cells67 : Try.prog.cellsOf 67 = 1 := by kernel_rfl
theorem cells68 : Try.prog.cellsOf 68 = 6 := by kernel_rfl
theorem cells70 : Try.prog.cellsOf 70 = 31 := by kernel_rfl
theorem cells123 : Try.prog.cellsOf 123 = 18 := by kernel_rfl

/-- an address at which a cell lies has no spot -/
theorem row_of_add {a : Addr} {n : Nat} {f : Nat → Value} (h : ∀ i, i < n → W.cell? (a.add i) = some (f i)) : Row W 0 (some a) n f := by
  obtain ⟨b, off, spot⟩ := a
  refine ⟨b, off, fun hn => ?_, fun i hi => ?_⟩
  · have h0 := h 0 hn
    have hs : spot = none := by simpa [Addr.add] using World.cell?_spot h0
    subst hs
    exact ⟨rfl, Nat.zero_le _⟩
  · have h0 := h 0 (by omega)
    have hs : spot = none := by simpa [Addr.add] using World.cell?_spot h0
    subst hs
    have h1 := h i hi
    rwa [Addr.add_lit] at h1

theorem stretch {o c i : Nat} (hi : i < c) : ((cs.drop o).take c)[i]? = cs[o + i]? := by
  rw [List.getElem?_take_of_lt hi, List.getElem?_drop]
theorem one_at {o : Nat} {v : Value} (h : (cs.drop o).take 1 = [v]) : cs[o]? = some v := by
  have := stretch (cs := cs) (o := o) (c := 1) (i := 0) (by omega)
  rw [h] at this
  exact this.symm

theorem field_of {t : TypeId} {fs : Array Field} (ht : Try.prog.underlying t = some (.struct fs)) (h : DataW.trod enc Try.prog W base sp hd m t cs = some x) (i ty off c : Nat) (hf : (fs[i]?).map (fun f => (f.type, f.offset)) = some (ty, off)) (hc : Try.prog.cellsOf ty = c) :
    ∃ k y, DataW.trod enc Try.prog W base sp hd k ty ((cs.drop off).take c) = some y := by
  obtain ⟨xs, k, _, _, _, hl, hx⟩ := DataW.trod_struct ht h
  obtain ⟨f, hf1, hf2⟩ := Option.map_eq_some_iff.1 hf
  simp only [Prod.mk.injEq] at hf2
  obtain ⟨rfl, rfl⟩ := hf2
  have h1 := hx i f hf1
  have hi : i < xs.length := by rw [hl]; exact (Array.getElem?_eq_some_iff.1 hf1).1
  rw [List.getElem?_eq_getElem hi, hc] at h1
  exact ⟨k, _, h1⟩

theorem arr_ints {t e : TypeId} {n : Nat} {k : IntKind} (ht : Try.prog.underlying t = some (.array n e)) (he : Try.prog.underlying e = some (.int k)) (ce : Try.prog.cellsOf e = 1) (h : DataW.trod enc Try.prog W base sp hd m t cs = some x) :
    ∃ z : Nat → Int, ∀ i, i < n → cs[i]? = some (.int k (z i)) := by
  obtain ⟨xs, q, _, _, _, hl, hx⟩ := DataW.trod_array ht h
  refine choose_lt (α := Int) (p := fun i z => cs[i]? = some (.int k z)) fun i hi => ?_
  have h1 := hx i hi
  rw [List.getElem?_eq_getElem (by omega), ce, Nat.mul_one] at h1
  obtain ⟨z, hz, _⟩ := DataW.trod_int he h1
  exact ⟨z, one_at hz⟩

theorem int_at {t : TypeId} {k : IntKind} {o : Nat} (ht : Try.prog.underlying t = some (.int k)) (h : DataW.trod enc Try.prog W base sp hd m t ((cs.drop o).take 1) = some x) : ∃ z, cs[o]? = some (.int k z) := by
  obtain ⟨z, hz, _⟩ := DataW.trod_int ht h
  exact ⟨z, one_at hz⟩
theorem bool_at {t : TypeId} {o : Nat} (ht : Try.prog.underlying t = some .bool) (h : DataW.trod enc Try.prog W base sp hd m t ((cs.drop o).take 1) = some x) : ∃ z, cs[o]? = some (.bool z) := by
  obtain ⟨z, hz, _⟩ := DataW.trod_bool ht h
  exact ⟨z, one_at hz⟩

theorem open_mark (h : DataW.trod enc Try.prog W base sp hd m 123 cs = some x) : ∃ k : Mk, ∀ f, f < 18 → cs[f]? = some (k.cell f) := by
  obtain ⟨_, _, h0⟩ := field_of Try.underlying123 h 0 22 0 16 rfl cells22
  obtain ⟨_, _, h1⟩ := field_of Try.underlying123 h 1 23 16 1 rfl cells23
  obtain ⟨_, _, h2⟩ := field_of Try.underlying123 h 2 4 17 1 rfl cells4
  obtain ⟨z, hz⟩ := arr_ints Try.underlying22 Try.underlying5 cells5 h0
  obtain ⟨q, hq⟩ := int_at Try.underlying23 h1
  obtain ⟨b, hb⟩ := bool_at Try.underlying4 h2
  refine ⟨⟨z, q, b⟩, fun f hf => ?_⟩
  by_cases h16 : f < 16
  · have := hz f h16
    rw [stretch h16, Nat.zero_add] at this
    rw [this]
    have : f = 0 ∨ f = 1 ∨ f = 2 ∨ f = 3 ∨ f = 4 ∨ f = 5 ∨ f = 6 ∨ f = 7 ∨ f = 8 ∨ f = 9 ∨ f = 10 ∨ f = 11 ∨ f = 12 ∨ f = 13 ∨ f = 14 ∨ f = 15 := by omega
    rcases this with rfl | rfl | rfl | rfl | rfl | rfl | rfl | rfl | rfl | rfl | rfl | rfl | rfl | rfl | rfl | rfl <;> rfl
  · have : f = 16 ∨ f = 17 := by omega
    rcases this with rfl | rfl
    · exact hq
    · exact hb

theorem slice_i32 {t : TypeId} (ht : Try.prog.underlying t = some (.slice 21)) (h : DataW.trod enc Try.prog W base (fun _ => true) hd m t cs = some x) : ∃ (a : Option Addr) (n c : Nat) (T : Nat → Int), cs = [.slice a n c] ∧ Row W 0 a n (fun j => .int .i32 (T j)) ∧ n ≤ maxLen ∧ ∀ i, i < n → -2147483648 ≤ T i ∧ T i ≤ 2147483647 := by
  rcases open_slice1 ht cells21 h with ⟨hcs, _⟩ | ⟨a, len, cap, q, k, V, D, Pl, hcs, _, hl, hm, hq, _, hx⟩
  · exact ⟨none, 0, 0, fun _ => 0, hcs, Row.zero _ _ _ _, Nat.zero_le _, fun i hi => by omega⟩
  · simp only [if_true] at hq
    obtain ⟨T, hT⟩ := choose_lt (α := Int) (n := len) (p := fun i z => V i = .int .i32 z ∧ -2147483648 ≤ z ∧ z ≤ 2147483647) (fun i hi => by
      obtain ⟨_, h2⟩ := hx i (by omega)
      obtain ⟨z, hz, _, hw⟩ := DataW.trod_int Try.underlying21 h2
      simp only [List.cons.injEq, and_true] at hz
      simp [Lit.wf, IntKind.min, IntKind.max, IntKind.signed, IntKind.bits] at hw
      exact ⟨z, hz, by omega, by omega⟩)
    exact ⟨some a, len, cap, T, hcs, row_of_add fun i hi => by rw [(hx i (by omega)).1, (hT i hi).1], by omega, fun i hi => (hT i hi).2⟩

instance : Inhabited Mk := ⟨⟨fun _ => 0, 0, false⟩⟩
instance : Inhabited Pc := ⟨⟨fun _ => 0, 0, 0, none, 0, 0, 0, false, none, 0, 0, 0, fun _ => 0, 0, 0⟩⟩

theorem slice_marks (h : DataW.trod enc Try.prog W base (fun _ => true) hd m 67 cs = some x) : ∃ (a : Option Addr) (n c : Nat) (M : Nat → Mk), cs = [.slice a n c] ∧ Row W 0 a (n * 18) (mks M) ∧ n ≤ maxLen := by
  rcases open_slice Try.underlying67 h with ⟨hcs, _⟩ | ⟨a, len, cap, q, k, D, Pl, hcs, _, hl, hm, hq, _, hx⟩
  · exact ⟨none, 0, 0, fun _ => default, hcs, Row.zero _ _ _ _, Nat.zero_le _⟩
  · simp only [if_true] at hq
    rw [cells123] at hx
    obtain ⟨M, hM⟩ := choose_lt (α := Mk) (n := len) (p := fun i k => ∀ f, f < 18 → W.cell? (a.add (i * 18 + f)) = some (k.cell f)) (fun i hi => by
      obtain ⟨cs', h1, h2⟩ := hx i (by omega)
      obtain ⟨_, _, hc⟩ := World.cells?_some h1
      obtain ⟨k, hk⟩ := open_mark h2
      refine ⟨k, fun f hf => ?_⟩
      have := hc f hf
      rw [Deep.add_add] at this
      rw [this]
      exact hk f hf)
    refine ⟨some a, len, cap, M, hcs, row_of_add fun j hj => ?_, by omega⟩
    have := hM (j / 18) (by omega) (j % 18) (by omega)
    rw [show j / 18 * 18 + j % 18 = j by omega] at this
    exact this

/-- a piece, opened -/
def PieceAt (W : World) (k : Pc) : Prop := k.tn ≤ maxLen ∧ k.mn ≤ maxLen ∧ (∃ T : Nat → Int, Row W 0 k.ta k.tn (fun j => .int .i32 (T j))) ∧ ∃ M : Nat → Mk, Row W 0 k.ma (k.mn * 18) (mks M)

theorem open_piece (h : DataW.trod enc Try.prog W base (fun _ => true) hd m 70 cs = some x) : ∃ k : Pc, (∀ f, f < 31 → cs[f]? = some (k.cell f)) ∧ PieceAt W k := by
  obtain ⟨_, _, h0⟩ := field_of Try.underlying70 h 0 22 0 16 rfl cells22
  obtain ⟨_, _, h1⟩ := field_of Try.underlying70 h 1 23 16 1 rfl cells23
  obtain ⟨_, _, h2⟩ := field_of Try.underlying70 h 2 3 17 1 rfl cells3
  obtain ⟨_, _, h3⟩ := field_of Try.underlying70 h 3 52 18 1 rfl cells52
  obtain ⟨_, _, h4⟩ := field_of Try.underlying70 h 4 23 19 1 rfl cells23
  obtain ⟨_, _, h5⟩ := field_of Try.underlying70 h 5 4 20 1 rfl cells4
  obtain ⟨_, _, h6⟩ := field_of Try.underlying70 h 6 67 21 1 rfl cells67
  obtain ⟨_, _, h7⟩ := field_of Try.underlying70 h 7 21 22 1 rfl cells21
  obtain ⟨_, _, h8⟩ := field_of Try.underlying70 h 8 68 23 6 rfl cells68
  obtain ⟨_, _, h9⟩ := field_of Try.underlying70 h 9 23 29 1 rfl cells23
  obtain ⟨_, _, h10⟩ := field_of Try.underlying70 h 10 3 30 1 rfl cells3
  obtain ⟨z, hz⟩ := arr_ints Try.underlying22 Try.underlying5 cells5 h0
  obtain ⟨seq, hseq⟩ := int_at Try.underlying23 h1
  obtain ⟨kk, hkk⟩ := int_at Try.underlying3 h2
  obtain ⟨ta, tn, tc, T, hts, hT, htn, _⟩ := slice_i32 Try.underlying52 h3
  have ht := one_at hts
  obtain ⟨clock, hclock⟩ := int_at Try.underlying23 h4
  obtain ⟨del, hdel⟩ := bool_at Try.underlying4 h5
  obtain ⟨ma, mn, mc, M, hms, hM, hmn⟩ := slice_marks h6
  have hm := one_at hms
  obtain ⟨next, hnext⟩ := int_at Try.underlying21 h7
  obtain ⟨xs, q, _, _, _, hl, hx⟩ := DataW.trod_array Try.underlying68 h8
  obtain ⟨pl, hpl⟩ : ∃ pl : Nat → Int, ∀ i, i < 6 → cs[23 + i]? = some (.int .i32 (pl i)) := choose_lt (α := Int) (p := fun i z => cs[23 + i]? = some (.int .i32 z)) fun i hi => by
    have h1 := hx (i / 3) (by omega)
    rw [List.getElem?_eq_getElem (by omega), cells66] at h1
    have hi3 : i % 3 = 0 ∨ i % 3 = 1 ∨ i % 3 = 2 := by omega
    rcases hi3 with e | e | e
    · obtain ⟨_, _, g⟩ := field_of Try.underlying66 h1 0 21 0 1 rfl cells21
      obtain ⟨v, hv⟩ := int_at Try.underlying21 g
      rw [stretch (by omega), stretch (by omega)] at hv
      exact ⟨v, by rw [← hv]; congr 1; omega⟩
    · obtain ⟨_, _, g⟩ := field_of Try.underlying66 h1 1 21 1 1 rfl cells21
      obtain ⟨v, hv⟩ := int_at Try.underlying21 g
      rw [stretch (by omega), stretch (by omega)] at hv
      exact ⟨v, by rw [← hv]; congr 1; omega⟩
    · obtain ⟨_, _, g⟩ := field_of Try.underlying66 h1 2 21 2 1 rfl cells21
      obtain ⟨v, hv⟩ := int_at Try.underlying21 g
      rw [stretch (by omega), stretch (by omega)] at hv
      exact ⟨v, by rw [← hv]; congr 1; omega⟩
  obtain ⟨pri, hpri⟩ := int_at Try.underlying23 h9
  obtain ⟨size, hsize⟩ := int_at Try.underlying3 h10
  refine ⟨⟨z, seq, kk, ta, tn, tc, clock, del, ma, mn, mc, next, pl, pri, size⟩, fun f hf => ?_, htn, hmn, ⟨T, hT⟩, ⟨M, hM⟩⟩
  by_cases h16 : f < 16
  · have := hz f h16
    rw [stretch h16, Nat.zero_add] at this
    rw [this]
    have : f = 0 ∨ f = 1 ∨ f = 2 ∨ f = 3 ∨ f = 4 ∨ f = 5 ∨ f = 6 ∨ f = 7 ∨ f = 8 ∨ f = 9 ∨ f = 10 ∨ f = 11 ∨ f = 12 ∨ f = 13 ∨ f = 14 ∨ f = 15 := by omega
    rcases this with rfl | rfl | rfl | rfl | rfl | rfl | rfl | rfl | rfl | rfl | rfl | rfl | rfl | rfl | rfl | rfl <;> rfl
  · have : f = 16 ∨ f = 17 ∨ f = 18 ∨ f = 19 ∨ f = 20 ∨ f = 21 ∨ f = 22 ∨ f = 23 ∨ f = 24 ∨ f = 25 ∨ f = 26 ∨ f = 27 ∨ f = 28 ∨ f = 29 ∨ f = 30 := by omega
    rcases this with rfl | rfl | rfl | rfl | rfl | rfl | rfl | rfl | rfl | rfl | rfl | rfl | rfl | rfl | rfl
    · exact hseq
    · exact hkk
    · exact ht
    · exact hclock
    · exact hdel
    · exact hm
    · exact hnext
    · exact hpl 0 (by omega)
    · exact hpl 1 (by omega)
    · exact hpl 2 (by omega)
    · exact hpl 3 (by omega)
    · exact hpl 4 (by omega)
    · exact hpl 5 (by omega)
    · exact hpri
    · exact hsize

theorem opened_pieces {a : Option Addr} {n cap : Nat} (h : DataW.Trod enc Try.prog W 0 (fun _ => true) true 51 (.slice a n cap) d p) :
    ∃ (X : Nat → Pc) (T : Nat → Nat → Int) (M : Nat → Nat → Mk), Data W 0 a n X T M ∧ (∀ i, i < n → (X i).tn ≤ maxLen ∧ (X i).mn ≤ maxLen) ∧ n ≤ maxLen := by
  obtain ⟨fuel, hf⟩ := h
  rcases open_slice Try.underlying51 hf with ⟨hcs, _⟩ | ⟨a', len, cap', q, k, D, Pl, hcs, _, hl, hm, hq, _, hx⟩
  · simp [Value.cells] at hcs
    obtain ⟨rfl, rfl, rfl⟩ := hcs
    exact ⟨fun _ => default, fun _ _ => 0, fun _ _ => default, ⟨Row.zero _ _ _ _, fun i hi => by omega, fun i hi => by omega⟩, fun i hi => by omega, Nat.zero_le _⟩
  · simp [Value.cells] at hcs
    obtain ⟨rfl, rfl, rfl⟩ := hcs
    simp only [if_true] at hq
    rw [cells70] at hx
    obtain ⟨X, hX⟩ := choose_lt (α := Pc) (n := n) (p := fun i k => (∀ f, f < 31 → W.cell? (a'.add (i * 31 + f)) = some (k.cell f)) ∧ PieceAt W k) (fun i hi => by
      obtain ⟨cs', h1, h2⟩ := hx i (by omega)
      obtain ⟨_, _, hc⟩ := World.cells?_some h1
      obtain ⟨k, hk, hp⟩ := open_piece h2
      refine ⟨k, fun f hf => ?_, hp⟩
      have := hc f hf
      rw [Deep.add_add] at this
      rw [this]
      exact hk f hf)
    obtain ⟨T, hT⟩ := choose_lt (α := Nat → Int) (n := n) (p := fun i T => Row W 0 (X i).ta (X i).tn (fun j => .int .i32 (T j))) (fun i hi => (hX i hi).2.2.2.1)
    obtain ⟨M, hM⟩ := choose_lt (α := Nat → Mk) (n := n) (p := fun i M => Row W 0 (X i).ma ((X i).mn * 18) (mks M)) (fun i hi => (hX i hi).2.2.2.2)
    refine ⟨X, T, M, ⟨row_of_add fun j hj => ?_, hT, hM⟩, fun i hi => ⟨(hX i hi).2.1, (hX i hi).2.2.1⟩, by omega⟩
    have := (hX (j / 31) (by omega)).1 (j % 31) (by omega)
    rw [show j / 31 * 31 + j % 31 = j by omega] at this
    exact this

theorem opened_nums {a : Option Addr} {n cap : Nat} (h : DataW.Trod enc Try.prog W 0 (fun _ => true) true 52 (.slice a n cap) d p) :
    ∃ N : Nat → Int, Row W 0 a n (fun i => .int .i32 (N i)) ∧ n ≤ maxLen ∧ ∀ i, i < n → -2147483648 ≤ N i ∧ N i ≤ 2147483647 := by
  obtain ⟨fuel, hf⟩ := h
  obtain ⟨a', n', c', T, hcs, h1, h2, h3⟩ := slice_i32 Try.underlying52 hf
  simp [Value.cells] at hcs
  obtain ⟨rfl, rfl, rfl⟩ := hcs
  exact ⟨T, h1, h2, h3⟩
end Go.Proofs.Qxb6601797a
