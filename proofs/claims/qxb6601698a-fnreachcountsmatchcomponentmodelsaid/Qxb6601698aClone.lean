/- Walks: zzB1CloneStrs, zzB1CloneInts, zzB1CloneInts2, zzB1NumberOf. -/
import Derived.Test.Qxb6601698aBase
import Derived.Deep.LoopGhost
import Derived.Deep.Light
import Derived.WalkSpells
namespace Go.Proofs.Qxb6601698a
open Go.RowKit

/-- After k rounds of a copying loop: block B holds the first k cells. -/
def Copied (w wr : World) (t : TypeId) (n k : Nat) (f : Nat → Value) (z : Value) : Prop :=
  wr.rowIs w.heap.size t n (fun i => if i < k then f i else z) ∧ Below w.heap.size w wr
theorem Copied.start (w : World) (t : TypeId) (n : Nat) (f : Nat → Value) (z : Value) : Copied w (w.alloc (.cells (madeCells #[z] n) t)) t n 0 f z :=
  ⟨(World.rowIs_made w z n t).congr (fun i _ => by simp), (Below.refl _ _).alloc (Nat.le_refl _) _⟩
theorem Copied.step {w wr : World} {t : TypeId} {n k : Nat} {f : Nat → Value} {z : Value} (h : Copied w wr t n k f z) : Copied w (wr.setCell ⟨w.heap.size, k, none⟩ (f k)) t n (k + 1) f z := by
  refine ⟨(h.1.set k (f k)).congr (fun i _ => ?_), h.2.setCell (Nat.le_refl _) _⟩
  by_cases e : i = k
  · subst e; simp
  · by_cases h2 : i < k
    · rw [if_neg e, if_pos h2, if_pos (by omega)]
    · rw [if_neg e, if_neg h2, if_neg (by omega)]
theorem Copied.row {w wr : World} {t : TypeId} {n : Nat} {f : Nat → Value} {z : Value} (h : Copied w wr t n n f z) : Row wr w.heap.size (some ⟨w.heap.size, 0, none⟩) n f :=
  Row.of_rowIs (h.1.congr (g := f) (fun i hi => by rw [if_pos hi])) (Nat.le_refl _)

set_option maxHeartbeats 1000000 in
theorem cloneStrs_any (a : Option Addr) (n cap lo : Nat) (S : Nat → ByteArray) (w : World) (hn : n ≤ 65536)
    (hnil : a = none → n = 0) (hr : Row w lo a n (fun i => .string (S i))) :
    Calls Try.prog 12 #[.slice a n cap] w fun e w' => RetRow w n (fun i => .string (S i)) e w' := by
  obtain ⟨b, off, ha, hc⟩ := hr
  have heq := fun w => Lib.run_eql_slice_nil (P := Try.prog) w 23 9 a n cap 0 0 Try.underlying23
  have hmk := run_make_row' (P := Try.prog) 23 9 (.string ByteArray.empty) 16 Try.underlying23 Try.info9 rfl .i64 .i64 n (by omega) (by omega)
  cases a with
  | none =>
    obtain rfl := hnil rfl
    go_enter Try.func12, Try.ntmps12
    go_wp2
    go_ret
    exact ⟨none, 0, rfl, Row.zero _ _ _ _, Below.refl _ _, fun _ => rfl⟩
  | some a0 =>
    go_enter Try.func12, Try.ntmps12
    go_wp2
    clear hmk heq
    go_loopg [4] n (fun g s4 wr => ∃ k : Nat, k ≤ n ∧ g = n - k ∧ s4 = .int .i64 k ∧ Copied w wr 9 n k (fun i => .string (S i)) (.string ByteArray.empty))
    case atStart => exact ⟨0, Nat.zero_le _, rfl, rfl, Copied.start _ _ _ _ _⟩
    case round =>
      obtain ⟨k, hk, rfl, rfl, hC⟩ := hrel
      by_cases hlt : k < n
      · obtain ⟨h0, _⟩ := ha (by omega)
        obtain rfl : a0 = ⟨b, off, none⟩ := by simpa using h0
        have hbl : b < w.heap.size := World.block_lt_of_cell? _ _ (hc k hlt)
        have h1 : wr.cell? ⟨b, off + k, none⟩ = some (.string (S k)) := (hC.2.cell (p := ⟨b, off + k, none⟩) hbl).trans (hc k hlt)
        have h2 := hC.1.cell hlt
        have h3 := hC.1.frozen k
        clear h0
        go_wp2
        go_roundg (n - (k + 1))
        case measure => go_light; omega
        case rel => go_light; exact ⟨k + 1, by omega, rfl, by go_num, hC.step⟩
      · obtain rfl : k = n := by omega
        go_wp2
        go_ret
        exact ⟨_, _, rfl, hC.row, hC.2, fun h => by cases h⟩

set_option maxHeartbeats 1000000 in
theorem cloneInts_any (a : Option Addr) (n cap lo : Nat) (S : Nat → Int) (w : World) (hn : n ≤ 1048576)
    (hnil : a = none → n = 0) (hr : Row w lo a n (fun i => .int .i64 (S i))) :
    Calls Try.prog 15 #[.slice a n cap] w fun e w' => RetRow w n (fun i => .int .i64 (S i)) e w' := by
  obtain ⟨b, off, ha, hc⟩ := hr
  have heq := fun w => Lib.run_eql_slice_nil (P := Try.prog) w 25 3 a n cap 0 0 Try.underlying25
  have hmk := run_make_row' (P := Try.prog) 25 3 (.int .i64 0) 8 Try.underlying25 Try.info3 rfl .i64 .i64 n (by omega) (by omega)
  cases a with
  | none =>
    obtain rfl := hnil rfl
    go_enter Try.func15, Try.ntmps15
    go_wp2
    go_ret
    exact ⟨none, 0, rfl, Row.zero _ _ _ _, Below.refl _ _, fun _ => rfl⟩
  | some a0 =>
    go_enter Try.func15, Try.ntmps15
    go_wp2
    clear hmk heq
    go_loopg [4] n (fun g s4 wr => ∃ k : Nat, k ≤ n ∧ g = n - k ∧ s4 = .int .i64 k ∧ Copied w wr 3 n k (fun i => .int .i64 (S i)) (.int .i64 0))
    case atStart => exact ⟨0, Nat.zero_le _, rfl, rfl, Copied.start _ _ _ _ _⟩
    case round =>
      obtain ⟨k, hk, rfl, rfl, hC⟩ := hrel
      by_cases hlt : k < n
      · obtain ⟨h0, _⟩ := ha (by omega)
        obtain rfl : a0 = ⟨b, off, none⟩ := by simpa using h0
        have hbl : b < w.heap.size := World.block_lt_of_cell? _ _ (hc k hlt)
        have h1 : wr.cell? ⟨b, off + k, none⟩ = some (.int .i64 (S k)) := (hC.2.cell (p := ⟨b, off + k, none⟩) hbl).trans (hc k hlt)
        have h2 := hC.1.cell hlt
        have h3 := hC.1.frozen k
        clear h0
        go_wp2
        go_roundg (n - (k + 1))
        case measure => go_light; omega
        case rel => go_light; exact ⟨k + 1, by omega, rfl, by go_num, hC.step⟩
      · obtain rfl : k = n := by omega
        go_wp2
        go_ret
        exact ⟨_, _, rfl, hC.row, hC.2, fun h => by cases h⟩
end Go.Proofs.Qxb6601698a
