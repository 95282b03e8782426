/- Walks: zzBytes_.., cloneIntsPB1, cloneBytesPB1, cloneStringsPB1. -/
import Derived.Test.Qxb6601781aBase
import Derived.Deep.LoopGhost
import Derived.Deep.Light
import Derived.WalkSpells
import Derived.Laws.CopyOwn
namespace Go.Proofs.Qxb6601781a
open Go.RowKit

theorem setRow_new (w : World) (c c' : Array Value) (t : TypeId) : (w.alloc (.cells c t)).setRow w.heap.size c' = w.alloc (.cells c' t) := by
  have e : ((w.alloc (.cells c t)).setRow w.heap.size c').heap = w.heap.push (.cells c' t) := by
    apply Array.ext_getElem?
    intro i
    by_cases e1 : i = w.heap.size
    · subst e1
      rw [setRow_heap _ _ c c' t (0, 0) (Deep.blk_alloc_new _ _)]
      simp
    · rw [setRow_other _ _ _ _ (by omega)]
      show (w.heap.push (.cells c t))[i]? = _
      rw [Array.getElem?_push, Array.getElem?_push, if_neg e1, if_neg e1]
  have e2 : (w.alloc (.cells c t)).setRow w.heap.size c' = { (w.alloc (.cells c t)) with heap := ((w.alloc (.cells c t)).setRow w.heap.size c').heap } := rfl
  rw [e2, e]
  rfl
theorem add_at (b off j : Nat) : (⟨b, off, none⟩ : Addr).add j = ⟨b, off + j, none⟩ := by
  unfold Addr.add
  split
  · rename_i h; subst h; rfl
  · rfl
/-- 'y := make([]T, len(x)); copy(y, x)' -/
theorem run_copy_fresh {P : Program} (w : World) (T E ty : TypeId) (z : Value) (f : Nat → Value) (a0 : Addr) (n cap : Nat) (hu : P.underlying T = some (.slice E)) (hs : (P.info? E).map (·.size) = some 1) (lo : Nat) (hr : Row w lo (some a0) n f) (h1 : ∀ i, (f i).oneCell' = true) :
    (Builtin.copy_ #[T, T] ty #[.slice (some ⟨w.heap.size, 0, none⟩) n n, .slice (some a0) n cap]).run P (w.alloc (.cells (madeCells #[z] n) E)) = .ok (.int .i64 n) (w.alloc (.cells ((List.range n).map f).toArray E)) := by
  by_cases h0 : n = 0
  · subst h0
    have := run_copy_none (P := P) (w.alloc (.cells (madeCells #[z] 0) E)) T T ty E (some ⟨w.heap.size, 0, none⟩) (some a0) 0 0 0 cap hu hs rfl
    rw [this]
    have e : madeCells #[z] 0 = ((List.range 0).map f).toArray := by simp [madeCells]
    rw [e]
    rfl
  · obtain ⟨b, off, ha, hc⟩ := hr
    obtain ⟨e, _⟩ := ha (by omega)
    have e' : a0 = ⟨b, off, none⟩ := by simpa using e
    subst e'
    have hsz : (madeCells #[z] n).size = n := size_madeCells _ _
    have := run_copy_row (P := P) (w.alloc (.cells (madeCells #[z] n) E)) T T ty E w.heap.size 0 n n ⟨b, off, none⟩ n cap (madeCells #[z] n) E ((List.range n).map f) hu hs (Deep.blk_alloc_new _ _) (by simp)
      (fun j v hj => by
        have hjn : j < n := by
          rcases Nat.lt_or_ge j n with h | h
          · exact h
          · rw [List.getElem?_eq_none (by simpa using h)] at hj; cases hj
        have e2 : v = f j := by simpa [hjn] using hj.symm
        rw [e2, add_at, World.cell?_alloc_old _ _ _ (by show b ≠ w.heap.size; have : b < w.heap.size := World.block_lt_of_cell? _ _ (hc j hjn); omega)]
        exact hc j hjn) (by simp [hsz]) (fun v hv => by obtain ⟨i, _, rfl⟩ := List.mem_map.1 hv; exact h1 i)
    rw [this]
    have e3 : (madeCells #[z] n).toList.take 0 ++ (List.range n).map f ++ (madeCells #[z] n).toList.drop (0 + ((List.range n).map f).length) = (List.range n).map f := by simp [hsz]
    rw [e3, setRow_new]
    simp [goInt]
theorem rowIs_fresh (w : World) (n : Nat) (t : TypeId) (f : Nat → Value) : (w.alloc (.cells ((List.range n).map f).toArray t)).rowIs w.heap.size t n f :=
  ⟨_, Deep.blk_alloc_new _ _, by simp, fun i hi => by simp [hi]⟩

set_option maxHeartbeats 1000000 in
theorem cloneInts_any (a : Option Addr) (n cap lo : Nat) (S : Nat → Int) (w : World) (hn : n ≤ 1048576)
    (hr : Row w lo a n (fun i => .int .i64 (S i))) :
    Calls Try.prog 14 #[.slice a n cap] w fun e w' => RetRow w n (fun i => .int .i64 (S i)) e w' := by
  have hnil := hr.nil
  have hcp := fun a0 (h : a = some a0) => run_copy_fresh (P := Try.prog) w 29 3 3 (.int .i64 0) (fun i => .int .i64 (S i)) a0 n cap Try.underlying29 (by kernel_rfl) lo (h ▸ hr) (fun i => rfl)
  have heq := fun w => Lib.run_eql_slice_nil (P := Try.prog) w 29 3 a n cap 0 0 Try.underlying29
  have hmk := run_make_row' (P := Try.prog) 29 3 (.int .i64 0) 8 Try.underlying29 Try.info3 rfl .i64 .i64 n (by omega) (by omega)
  clear hr
  cases a with
  | none =>
    obtain rfl := hnil rfl
    clear hcp
    go_enter Try.func14, Try.ntmps14
    go_wp2
    go_ret
    exact ⟨none, rfl, Row.zero _ _ _ _, Below.refl _ _⟩
  | some a0 =>
    have hcp' := hcp a0 rfl
    clear hcp
    go_enter Try.func14, Try.ntmps14
    go_wp2
    go_ret
    exact ⟨_, rfl, Row.of_rowIs (rowIs_fresh w n 3 _) (Nat.le_refl _), (Below.refl _ _).alloc (Nat.le_refl _) _⟩

set_option maxHeartbeats 1000000 in
theorem cloneBytes_any (a : Option Addr) (n cap lo : Nat) (S : Nat → Int) (w : World) (hn : n ≤ 1048576)
    (hr : Row w lo a n (fun i => .int .u8 (S i))) :
    Calls Try.prog 8 #[.slice a n cap] w fun e w' => RetRow w n (fun i => .int .u8 (S i)) e w' := by
  have hnil := hr.nil
  have hcp := fun a0 (h : a = some a0) => run_copy_fresh (P := Try.prog) w 22 5 3 (.int .u8 0) (fun i => .int .u8 (S i)) a0 n cap Try.underlying22 (by kernel_rfl) lo (h ▸ hr) (fun i => rfl)
  have heq := fun w => Lib.run_eql_slice_nil (P := Try.prog) w 22 5 a n cap 0 0 Try.underlying22
  have hmk := run_make_row' (P := Try.prog) 22 5 (.int .u8 0) 1 Try.underlying22 Try.info5 rfl .i64 .i64 n (by omega) (by omega)
  clear hr
  cases a with
  | none =>
    obtain rfl := hnil rfl
    clear hcp
    go_enter Try.func8, Try.ntmps8
    go_wp2
    go_ret
    exact ⟨none, rfl, Row.zero _ _ _ _, Below.refl _ _⟩
  | some a0 =>
    have hcp' := hcp a0 rfl
    clear hcp
    go_enter Try.func8, Try.ntmps8
    go_wp2
    go_ret
    exact ⟨_, rfl, Row.of_rowIs (rowIs_fresh w n 5 _) (Nat.le_refl _), (Below.refl _ _).alloc (Nat.le_refl _) _⟩

set_option maxHeartbeats 1000000 in
theorem cloneStrs_any (a : Option Addr) (n cap lo : Nat) (S : Nat → ByteArray) (w : World) (hn : n ≤ 1048576)
    (hr : Row w lo a n (fun i => .string (S i))) :
    Calls Try.prog 15 #[.slice a n cap] w fun e w' => RetRow w n (fun i => .string (S i)) e w' := by
  have hnil := hr.nil
  have hcp := fun a0 (h : a = some a0) => run_copy_fresh (P := Try.prog) w 30 9 3 (.string ByteArray.empty) (fun i => .string (S i)) a0 n cap Try.underlying30 (by kernel_rfl) lo (h ▸ hr) (fun i => rfl)
  have heq := fun w => Lib.run_eql_slice_nil (P := Try.prog) w 30 9 a n cap 0 0 Try.underlying30
  have hmk := run_make_row' (P := Try.prog) 30 9 (.string ByteArray.empty) 16 Try.underlying30 Try.info9 rfl .i64 .i64 n (by omega) (by omega)
  clear hr
  cases a with
  | none =>
    obtain rfl := hnil rfl
    clear hcp
    go_enter Try.func15, Try.ntmps15
    go_wp2
    go_ret
    exact ⟨none, rfl, Row.zero _ _ _ _, Below.refl _ _⟩
  | some a0 =>
    have hcp' := hcp a0 rfl
    clear hcp
    go_enter Try.func15, Try.ntmps15
    go_wp2
    go_ret
    exact ⟨_, rfl, Row.of_rowIs (rowIs_fresh w n 9 _) (Nat.le_refl _), (Below.refl _ _).alloc (Nat.le_refl _) _⟩

/-- a bool, whichever; nothing turned -/
def RetBool (w : World) (e : Ending) (w' : World) : Prop := ∃ b : Bool, e = .returned (.bool b) ∧ w = w'

set_option maxHeartbeats 1000000 in
theorem bytes_any (v0 v1 v3 v4 v8 v9 v10 v11 : Value) (ai ak al av : Option Addr) (ni nk nl nv ci ck cl cv lo : Nat) (S : Nat → ByteArray) (w : World) (h1 : ni ≤ maxLen) (h2 : nk ≤ maxLen) (h3 : nl ≤ maxLen) (h4 : nv ≤ maxLen)
    (hS : ∀ i, i < nv → (S i).size ≤ maxLen) (hr : Row w lo av nv (fun i => .string (S i))) :
    Calls Try.prog 13 #[v0, v1, .slice ai ni ci, v3, v4, .slice ak nk ck, .slice al nl cl, .slice av nv cv, v8, v9, v10, v11] w fun e w' => RetBool w e w' := by
  unfold maxLen at h1 h2 h3 h4
  obtain ⟨b, off, ha, hc⟩ := hr
  by_cases hb : ni ≤ 1048576 ∧ nk ≤ 1048576 ∧ nl ≤ 1048576 ∧ nv ≤ 1048576 ∧ ni + nk + nl + nv ≤ 1048576
  · obtain ⟨k1, k2, k3, k4, k5⟩ := hb
    go_enter Try.func13, Try.ntmps13
    go_wp2
    go_loopg [25, 26] nv (fun g s25 s26 wr => wr = w ∧ ∃ (t : Int) (k : Nat), k ≤ nv ∧ g = nv - k ∧ 0 ≤ t ∧ t ≤ 1048576 ∧ s25 = .int .i64 t ∧ s26 = .int .i64 k)
    case atStart => exact ⟨rfl, _, 0, Nat.zero_le _, rfl, by omega, by omega, rfl, rfl⟩
    case round =>
      obtain ⟨rfl, t, k, hk, rfl, ht0, ht1, rfl, rfl⟩ := hrel
      by_cases hlt : k < nv
      · obtain ⟨rfl, _⟩ := ha (by omega)
        have e1 := hc k hlt
        have e2 := hS k hlt
        unfold maxLen at e2
        go_wp2
        · go_ret
          exact ⟨_, rfl, rfl⟩
        · go_ret
          exact ⟨_, rfl, rfl⟩
        · go_roundg (nv - (k + 1))
          case measure => go_light; omega
          case rel => go_light; exact ⟨rfl, _, k + 1, by omega, rfl, by omega, by omega, rfl, by go_num⟩
      · go_wp2
        go_ret
        exact ⟨_, rfl, rfl⟩
  · go_enter Try.func13, Try.ntmps13
    go_wp2
    all_goals (go_ret; exact ⟨_, rfl, rfl⟩)
end Go.Proofs.Qxb6601781a
