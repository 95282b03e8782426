/- Equality of two equal arrays of sixteen bytes; reads and calls over worlds that have grown. -/
import Derived.Test.Qxb6601797aBuild
import Derived.ChangeKeysEq
import Derived.Laws.StructEq
namespace Go.Proofs.Qxb6601797a
open Go Go.RowKit

theorem plain5 : Try.prog.plainKey 5 = true := by kernel_rfl
theorem eqItems_same {d : Nat} (S : Array Value) (w : World) : ∀ is : List Nat, (∀ i ∈ is, ∃ z, S[i]? = some (.int .u8 z)) → (Op.eqItems (d + 1) 5 1 S S is).run Try.prog w = .ok true w
  | [], _ => by simp [Op.eqItems]
  | i :: is, h => by
    obtain ⟨z, hz⟩ := h i (by simp)
    have ih := eqItems_same (d := d) S w is fun j hj => h j (by simp [hj])
    have hp := run_part_plain (P := Try.prog) (w := w) plain5 (xs := S) (off := i * 1) (v := .int .u8 z) (by rw [Nat.mul_one]; exact hz)
    have he : (Op.equalIn (d + 1) 5 (.int .u8 z) (.int .u8 z)).run Try.prog w = .ok true w := by
      simp [Op.equalIn, run_underlying Try.underlying5]
    rw [Nat.mul_one] at hp
    simp [Op.eqItems, Sem.run_bind, hp, he, ih]

theorem cells5' : Try.prog.cellsOf 5 = 1 := by kernel_rfl
theorem equal22_same (d : Nat) (S : List Value) (hS : ∀ i, i < 16 → ∃ z, S[i]? = some (.int .u8 z)) (w : World) : (Op.equalIn (d + 1 + 1) 22 (.agg S.toArray) (.agg S.toArray)).run Try.prog w = .ok true w := by
  obtain ⟨i5, hi5⟩ : ∃ i, Try.prog.info? 5 = some i := by
    have : (Try.prog.info? 5).isSome = true := by kernel_rfl
    exact Option.isSome_iff_exists.1 this
  rw [run_equalIn_array w (d + 1) S.toArray S.toArray Try.underlying22 hi5, cells5', eqItems_same (d := d) S.toArray w _ (fun i hi => by
    rw [List.getElem?_toArray]
    exact hS i (by simpa using hi))]

theorem neq22_same (S : List Value) (hS : ∀ i, i < 16 → ∃ z, S[i]? = some (.int .u8 z)) (w : World) : (binOp .neq 22 (.agg S.toArray) (.agg S.toArray)).run Try.prog w = .ok (.bool false) w := by
  rw [run_neq_struct]
  have h : (Op.equalIn 10000 22 (.agg S.toArray) (.agg S.toArray)).run Try.prog w = .ok true w := equal22_same 9998 S hS w
  rw [h]
  rfl

theorem quiet_neq22 {op : Oper} {a : Act} {C : World → Prop} {K : Act → Prop} (x y : Operand) (t : TypeId) (ho : op.op = .binOp .neq 22 x y t) (S : List Value) (hx : a.eval x = .agg S.toArray) (hy : a.eval y = .agg S.toArray)
    (hS : ∀ i, i < 16 → ∃ z, S[i]? = some (.int .u8 z)) (h : K (a.put op.dst (.bool false))) : op.quiet Try.prog a C K := by
  refine ⟨.bool false, fun w hw => ?_, h⟩
  unfold Oper.quietAt execOp
  have hg : (eqGuard .neq 22 x y (.agg S.toArray) (.agg S.toArray)).run Try.prog w = .ok () w := run_eqGuard_agg _ _ _ _ _ _ _ (by kernel_rfl)
  have hb := neq22_same S hS w
  simp only [ho, hx, hy, Sem.run_bind, hg, Result.andThen_ok, hb]
  exact ⟨rfl, rfl⟩

/-- worlds that are W with new blocks -/
structure Ext (W : World) where
  val : World
  prop : Below W.heap.size W val
instance (W : World) : Nonempty (Ext W) := ⟨⟨W, Below.refl _ _⟩⟩

theorem quiet_load_ext {P : Program} {op : Oper} {a : Act} {W : World} {K : Act → Prop} (ty : TypeId) (x : Operand) (ho : op.op = .load ty x)
    (b o : Nat) (hx : a.eval x = .pointer (some ⟨b, o, none⟩)) (cs : List Value) (d : TypeDesc) (hb : b < W.heap.size) (hc : W.rangeAt b o cs)
    (hu : P.underlying ty = some d) (hd : d.isRow = true) (hi : (P.info? ty).map (·.size) = some cs.length)
    (h : K (a.put op.dst (.agg cs.toArray))) : op.quiet P a (fun w' => ∃ q : Ext W, w' = q.val) K := by
  refine ⟨.agg cs.toArray, fun w' hw' => ?_, h⟩
  obtain ⟨q, rfl⟩ := hw'
  unfold Oper.quietAt execOp
  have hc' : q.val.rangeAt b o cs := fun j v hv => (q.prop.cell (p := ⟨b, o + j, none⟩) hb).trans (hc j v hv)
  simp only [ho, hx, Instr.loadAt, Instr.sureAddr, Sem.run_bind, Sem.run_pure, Result.andThen_ok, run_loadVar_mid q.val b o ty cs d hc' hu hd hi]
  exact ⟨rfl, rfl⟩

/-- all operations of a region that does not draw, walked quietly -/
theorem wp_region_plain_all {P : Program} {id : Nat} {Q : Exit → Act → World → Prop} {a : Act} {w : World} {l : List Oper}
    (h : wpQuiet P l.toArray (fun w' => ∃ n, w' = w.drewN n) (fun a' => ∀ w', (∃ n, w' = w.drewN n) → Q .normal a' w') l a) : (Code.region id l.toArray false).wp P Q a w := by
  refine wp_region_lit ?_
  have := wpList_of_quiet (rest := []) l a w ⟨0, rfl⟩ h
  rwa [List.append_nil] at this
/-- .. of a region that draws, over worlds that grow -/
theorem wp_region_ext {P : Program} {id : Nat} {Q : Exit → Act → World → Prop} {a : Act} {w : World} {l : List Oper} (hm : P.follows .mixedOrders = true) (hB : Region.lexB .any l.toArray = true)
    (h : wpQuiet P l.toArray (fun w' => ∃ q : Ext w, w' = q.val) (fun a' => ∀ w', (∃ q : Ext w, w' = q.val) → Q .normal a' w') l a) : (Code.region id l.toArray true).wp P Q a w :=
  wp_region_quiet (C := fun w' => ∃ q : Ext w, w' = q.val) hm hB ⟨⟨_, (Below.refl _ _).drew⟩, rfl⟩ (by simpa using h)
end Go.Proofs.Qxb6601797a
