/- The built-in copy at elements of several cells, as a step of a region that draws its order. -/
import Derived.Test.Qxb6601781aBase
import Derived.Laws.CopyOwn
namespace Go.Proofs.Qxb6601781a
open Go.RowKit

theorem run_copy_sized {P : Program} (w : World) (dT sT ty elem : TypeId) (size : Nat) (hu : P.underlying dT = some (.slice elem)) (hs : (P.info? elem).map (·.size) = some size) (dp sp : Option Addr) (dLen dCap sLen sCap g off : Nat) (cur : Array Value) (t : TypeId)
    (hg : w.heap[g]? = some (.cells cur t (0, 0))) (cs : List Value) (m : Nat) (hm : m = Nat.min sLen dLen) (hn : cs.length = m * size)
    (hpos : 0 < m → dp = some ⟨g, off, none⟩ ∧ ∃ ad, sp = some ad ∧ ∀ j v, cs[j]? = some v → w.cell? (ad.add j) = some v) (hfit : off + cs.length ≤ cur.size) (h1 : ∀ v ∈ cs, v.oneCell' = true) :
    (Builtin.copy_ #[dT, sT] ty #[.slice dp dLen dCap, .slice sp sLen sCap]).run P w = .ok (goInt m) (w.setRow g (cur.toList.take off ++ cs ++ cur.toList.drop (off + cs.length)).toArray) := by
  cases hq : P.info? elem with
  | none => simp [hq] at hs
  | some i =>
    have hi : i.size = size := by simpa [hq] using hs
    by_cases h0 : m = 0
    · have hc : cs = [] := List.eq_nil_of_length_eq_zero (by rw [hn, h0]; simp)
      subst hc
      have e : w.setRow g (cur.toList.take off ++ [] ++ cur.toList.drop (off + ([] : List Value).length)).toArray = w := by
        simp only [List.append_nil, List.length_nil, Nat.add_zero, List.take_append_drop, Array.toArray_toList]
        exact setRow_self w g cur t (0, 0) hg
      rw [e]
      have hl : ∀ (x : Addr), (loadCells x 0).run P w = .ok #[] w := fun x => by simpa using run_loadCells_list (P := P) w x [] (by simp)
      have hmin : Nat.min sLen dLen = 0 := by omega
      rw [h0]
      cases dp <;> cases sp <;> simp [Builtin.copy_, run_underlying hu, Builtin.lenOf, Builtin.firstCells, sizeOf, typeInfo, hq, hmin, storeCells, hl]
    · obtain ⟨rfl, ad, rfl, hsrc⟩ := hpos (by omega)
      have hl := run_loadCells_list (P := P) w ad cs hsrc
      have hst := run_storeCells_at P g off t cs 0 cur w hg (by simpa using hfit) h1
      simp [Builtin.copy_, run_underlying hu, Builtin.lenOf, Builtin.firstCells, sizeOf, typeInfo, hq, hi, ← hm, ← hn, hl, hst]

theorem step_copy_sized {P : Program} {ops : Array Oper} {o : Oper} {a : Act} {w : World} {K : Act → World → Prop} {Q : Exit → Act → World → Prop} {E : Prop} (hgd : o.guard = none) (d s : Operand) (dT sT : TypeId)
    (ho : o.op = .call { callee := .builtin .copy, args := #[d, s], argTypes := #[dT, sT] }) (elem : TypeId) (size : Nat) (hu : P.underlying dT = some (.slice elem)) (hsz : (P.info? elem).map (·.size) = some size)
    (dp sp : Option Addr) (dLen dCap sLen sCap : Nat) (hd : a.eval d = .slice dp dLen dCap) (hs : a.eval s = .slice sp sLen sCap)
    (g off : Nat) (cur : Array Value) (t : TypeId) (hg : w.heap[g]? = some (.cells cur t (0, 0))) (cs : List Value) (m : Nat) (hm : m = Nat.min sLen dLen) (hn : cs.length = m * size)
    (hpos : 0 < m → dp = some ⟨g, off, none⟩ ∧ ∃ ad, sp = some ad ∧ ∀ j v, cs[j]? = some v → w.cell? (ad.add j) = some v)
    (hfit : off + cs.length ≤ cur.size) (h1 : ∀ v ∈ cs, v.oneCell' = true)
    (h : K (a.put o.dst (goInt m)) (w.setRow g (cur.toList.take off ++ cs ++ cur.toList.drop (off + cs.length)).toArray)) :
    if Region.wanted o (yielded ops a.tmps) = true then Oper.wp P o a w K Q else E := by
  have hw : Region.wanted o (yielded ops a.tmps) = true := by simp [Region.wanted, hgd]
  rw [if_pos hw]
  have hrun := run_copy_sized (P := P) w dT sT o.type elem size hu hsz dp sp dLen dCap sLen sCap g off cur t hg cs m hm hn hpos hfit h1
  unfold Oper.wp
  simp [execOp, ho, resolve, invoke, builtin, hd, hs, hrun, Result.andThen]
  rw [Oper.upon_value]
  simpa using h
end Go.Proofs.Qxb6601781a
