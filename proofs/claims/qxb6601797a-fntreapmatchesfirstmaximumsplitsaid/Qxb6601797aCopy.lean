/- 'zzc := make([]T, len(x)); copy(zzc, x)'. -/
import Derived.Test.Qxb6601797aBase
import Derived.WalkSpells
import Derived.Laws.CopyOwn
namespace Go.Proofs.Qxb6601797a
open Go.RowKit

theorem setRow_new (w : World) (c c' : Array Value) (t : TypeId) : (w.alloc (.cells c t)).setRow w.heap.size c' = w.alloc (.cells c' t) := by
  have e : ((w.alloc (.cells c t)).setRow w.heap.size c').heap = w.heap.push (.cells c' t) := by
    apply Array.ext_getElem?
    intro i
    by_cases e1 : i = w.heap.size
    · subst e1
      rw [setRow_heap _ _ c c' t (0, 0) (Deep.blk_alloc_new _ _)]
      simp
    · rw [setRow_other _ _ _ _ (by omega)]
      show (w.heap.push (.cells c t))[i]? = _
      rw [Array.getElem?_push, Array.getElem?_push, if_neg e1, if_neg e1]
  have e2 : (w.alloc (.cells c t)).setRow w.heap.size c' = { (w.alloc (.cells c t)) with heap := ((w.alloc (.cells c t)).setRow w.heap.size c').heap } := rfl
  rw [e2, e]
  rfl
/-- 'y := make([]T, len(x)); copy(y, x)' -/
theorem run_copy_fresh {P : Program} (w : World) (T E ty : TypeId) (z : Value) (f : Nat → Value) (a0 : Addr) (n cap : Nat) (hu : P.underlying T = some (.slice E)) (hs : (P.info? E).map (·.size) = some 1) (lo : Nat) (hr : Row w lo (some a0) n f) (h1 : ∀ i, (f i).oneCell' = true) :
    (Builtin.copy_ #[T, T] ty #[.slice (some ⟨w.heap.size, 0, none⟩) n n, .slice (some a0) n cap]).run P (w.alloc (.cells (madeCells #[z] n) E)) = .ok (.int .i64 n) (w.alloc (.cells ((List.range n).map f).toArray E)) := by
  by_cases h0 : n = 0
  · subst h0
    have := run_copy_none (P := P) (w.alloc (.cells (madeCells #[z] 0) E)) T T ty E (some ⟨w.heap.size, 0, none⟩) (some a0) 0 0 0 cap hu hs rfl
    rw [this]
    have e : madeCells #[z] 0 = ((List.range 0).map f).toArray := by simp [madeCells]
    rw [e]
    rfl
  · obtain ⟨b, off, ha, hc⟩ := hr
    obtain ⟨e, _⟩ := ha (by omega)
    have e' : a0 = ⟨b, off, none⟩ := by simpa using e
    subst e'
    have hsz : (madeCells #[z] n).size = n := size_madeCells _ _
    have := run_copy_row (P := P) (w.alloc (.cells (madeCells #[z] n) E)) T T ty E w.heap.size 0 n n ⟨b, off, none⟩ n cap (madeCells #[z] n) E ((List.range n).map f) hu hs (Deep.blk_alloc_new _ _) (by simp)
      (fun j v hj => by
        have hjn : j < n := by
          rcases Nat.lt_or_ge j n with h | h
          · exact h
          · rw [List.getElem?_eq_none (by simpa using h)] at hj; cases hj
        have e2 : v = f j := by simpa [hjn] using hj.symm
        rw [e2, Addr.add_lit, World.cell?_alloc_old _ _ _ (by show b ≠ w.heap.size; have : b < w.heap.size := World.block_lt_of_cell? _ _ (hc j hjn); omega)]
        exact hc j hjn) (by simp [hsz]) (fun v hv => by obtain ⟨i, _, rfl⟩ := List.mem_map.1 hv; exact h1 i)
    rw [this]
    have e3 : (madeCells #[z] n).toList.take 0 ++ (List.range n).map f ++ (madeCells #[z] n).toList.drop (0 + ((List.range n).map f).length) = (List.range n).map f := by simp [hsz]
    rw [e3, setRow_new]
    simp [goInt]
theorem rowIs_fresh (w : World) (n : Nat) (t : TypeId) (f : Nat → Value) : (w.alloc (.cells ((List.range n).map f).toArray t)).rowIs w.heap.size t n f :=
  ⟨_, Deep.blk_alloc_new _ _, by simp, fun i hi => by simp [hi]⟩

end Go.Proofs.Qxb6601797a
