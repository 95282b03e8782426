/- Walk: ZZNewScanner. -/
import Derived.Test.Qxb6601781aClone
import Derived.BigRegion
namespace Go.Proofs.Qxb6601781a
open Go.RowKit

/-- cell f of token i -/
def tok (K L : Nat → Int) (S : Nat → ByteArray) (i f : Nat) : Value :=
  match f with
  | 0 => .int .u8 (K i)
  | 1 => .int .u8 0
  | 2 => .int .i64 (L i)
  | 3 => .string (S i)
  | 4 => .string ByteArray.empty
  | _ => .int .i64 0
/-- block b holds room for cap tokens, of which the first n are told -/
def Toks (w : World) (b n cap : Nat) (K L : Nat → Int) (S : Nat → ByteArray) : Prop :=
  ∃ F, w.rowIs b 51 (cap * 6) F ∧ ∀ i, i < n → ∀ f, f < 6 → F (i * 6 + f) = tok K L S i f
theorem Toks.of_block {w w' : World} {b n cap : Nat} {K L : Nat → Int} {S : Nat → ByteArray} (h : Toks w b n cap K L S) (e : w'.heap[b]? = w.heap[b]?) : Toks w' b n cap K L S := by
  obtain ⟨F, h1, h2⟩ := h
  exact ⟨F, h1.of_block e, h2⟩
theorem Toks.lt {w : World} {b n cap : Nat} {K L : Nat → Int} {S : Nat → ByteArray} (h : Toks w b n cap K L S) : b < w.heap.size := by
  obtain ⟨F, h1, _⟩ := h
  exact h1.lt
theorem Toks.cell {w : World} {b n cap : Nat} {K L : Nat → Int} {S : Nat → ByteArray} (h : Toks w b n cap K L S) (hn : n ≤ cap) {i f : Nat} (hi : i < n) (hf : f < 6) : w.cell? ⟨b, i * 6 + f, none⟩ = some (tok K L S i f) := by
  obtain ⟨F, h1, h2⟩ := h
  rw [h1.cell (by have : (i + 1) * 6 ≤ cap * 6 := Nat.mul_le_mul_right _ (by omega); omega), h2 i hi f hf]
/-- one whole token is stored at place k -/
def put6 (w : World) (b k : Nat) (v0 v1 v2 v3 v4 v5 : Value) : World :=
  (((((w.setCell ⟨b, k * 6, none⟩ v0).setCell ⟨b, k * 6 + 1, none⟩ v1).setCell ⟨b, k * 6 + 2, none⟩ v2).setCell ⟨b, k * 6 + 3, none⟩ v3).setCell ⟨b, k * 6 + 4, none⟩ v4).setCell ⟨b, k * 6 + 5, none⟩ v5
def six (v0 v1 v2 v3 v4 v5 : Value) : Nat → Value
  | 0 => v0 | 1 => v1 | 2 => v2 | 3 => v3 | 4 => v4 | _ => v5
theorem put6_row {w : World} {b k N : Nat} {t : TypeId} {F : Nat → Value} (h : w.rowIs b t N F) (v0 v1 v2 v3 v4 v5 : Value) :
    (put6 w b k v0 v1 v2 v3 v4 v5).rowIs b t N (fun j => if k * 6 ≤ j ∧ j < k * 6 + 6 then six v0 v1 v2 v3 v4 v5 (j - k * 6) else F j) := by
  refine ((((((h.set (k * 6) v0).set (k * 6 + 1) v1).set (k * 6 + 2) v2).set (k * 6 + 3) v3).set (k * 6 + 4) v4).set (k * 6 + 5) v5).congr (fun j _ => ?_)
  by_cases hj : k * 6 ≤ j ∧ j < k * 6 + 6
  · obtain ⟨f, hf, rfl⟩ : ∃ f, f < 6 ∧ j = k * 6 + f := ⟨j - k * 6, by omega, by omega⟩
    rw [if_pos hj]
    have e : k * 6 + f - k * 6 = f := by omega
    rw [e]
    match f, hf with
    | 0, _ => simp [six]
    | 1, _ => simp [six]
    | 2, _ => simp [six]
    | 3, _ => simp [six]
    | 4, _ => simp [six]
    | 5, _ => simp [six]
  · rw [if_neg hj, if_neg (by omega), if_neg (by omega), if_neg (by omega), if_neg (by omega), if_neg (by omega), if_neg (by omega)]
theorem put6_other {w : World} {b k : Nat} (v0 v1 v2 v3 v4 v5 : Value) {x : Nat} (hx : x ≠ b) : (put6 w b k v0 v1 v2 v3 v4 v5).heap[x]? = w.heap[x]? := by
  unfold put6
  rw [Below.heap_setCell _ _ _ _ hx, Below.heap_setCell _ _ _ _ hx, Below.heap_setCell _ _ _ _ hx, Below.heap_setCell _ _ _ _ hx, Below.heap_setCell _ _ _ _ hx, Below.heap_setCell _ _ _ _ hx]
theorem put6_below {B : Nat} {w0 w : World} (h : Below B w0 w) {b k : Nat} (hb : B ≤ b) (v0 v1 v2 v3 v4 v5 : Value) : Below B w0 (put6 w b k v0 v1 v2 v3 v4 v5) :=
  (((((h.setCell (p := ⟨b, k * 6, none⟩) hb v0).setCell (p := ⟨b, k * 6 + 1, none⟩) hb v1).setCell (p := ⟨b, k * 6 + 2, none⟩) hb v2).setCell (p := ⟨b, k * 6 + 3, none⟩) hb v3).setCell (p := ⟨b, k * 6 + 4, none⟩) hb v4).setCell (p := ⟨b, k * 6 + 5, none⟩) hb v5
theorem put6_size {w : World} {b k : Nat} (v0 v1 v2 v3 v4 v5 : Value) : (put6 w b k v0 v1 v2 v3 v4 v5).heap.size = w.heap.size := by simp [put6]

/-- the scanner's own cells -/
def scCells (tv iv : Value) (hd tk ind fl : Int) : Array Value :=
  #[.slice none 0 0, .int .i64 0, .int .i64 0, .int .i64 0, tv, .int .i64 hd, .int .i64 tk, .bool false, .int .i64 ind, iv, .int .i64 fl, .bool false, .slice none 0 0, .int .i64 0, .slice none 0 0, .slice none 0 0]
/-- what ZZNewScanner hands back -/
def RetNew (w : World) (n : Nat) (iv : Value) (hd tk ind fl : Int) (K L : Nat → Int) (S : Nat → ByteArray) (e : Ending) (w' : World) : Prop :=
  ∃ R b, e = .returned (.pointer (some ⟨R, 0, none⟩)) ∧ w.heap.size ≤ b ∧ w.heap.size ≤ R ∧ R ≠ b ∧ w'.heap[R]? = some (.cells (scCells (.slice (some ⟨b, 0, none⟩) n n) iv hd tk ind fl) 54 (0, 0)) ∧ Toks w' b n n K L S ∧ Below w.heap.size w w'

theorem run_make_toks (n : Nat) (hn : n ≤ 65536) (w : World) : (Instr.makeSlice 48 (.int .i64 (n : Int)) (.int .i64 (n : Int))).run Try.prog w =
    .ok (.slice (some ⟨w.heap.size, 0, none⟩) n n) (w.alloc (.cells (madeCells #[.int .u8 0, .int .u8 0, .int .i64 0, .string ByteArray.empty, .string ByteArray.empty, .int .i64 0] (n * 6)) 51)) := by
  obtain ⟨i, hi, hzz⟩ := Option.map_eq_some_iff.1 Try.info51
  simp only [Prod.mk.injEq] at hzz
  obtain ⟨hz, hs, hb⟩ := hzz
  have hr := run_make (P := Try.prog) w 48 51 i _ Try.underlying48 hi hz .i64 .i64 n n (by omega) (Int.le_refl _) (by rw [hb]; omega) (by omega)
  simp only [Int.toNat_natCast, hs] at hr
  exact hr

set_option maxHeartbeats 2000000 in
set_option maxRecDepth 100000 in
theorem new_any (fl ind hd tk : Int) (ai ak al av : Option Addr) (ni n ci ck cl cv lo : Nat) (K L : Nat → Int) (S : Nat → ByteArray) (w : World) (hn : n ≤ 65536)
    (hK : Row w lo ak n (fun i => .int .u8 (K i))) (hL : Row w lo al n (fun i => .int .i64 (L i))) (hS : Row w lo av n (fun i => .string (S i))) :
    Calls Try.prog 16 #[.int .i64 fl, .int .i64 ind, .slice ai ni ci, .int .i64 hd, .int .i64 tk, .slice ak n ck, .slice al n cl, .slice av n cv] w fun e w' =>
      RetNew w n (.slice ai ni ci) hd tk ind fl K L S e w' := by
  have hmk := run_make_toks n hn
  obtain ⟨bk, ok, hak, hck⟩ := hK
  obtain ⟨bl, ol, hal, hcl⟩ := hL
  obtain ⟨bv, ov, hav, hcv⟩ := hS
  go_enter Try.func16, Try.ntmps16
  go_wp2
  clear hmk
  go_loopg [18] n (fun g s18 wr => ∃ k : Nat, k ≤ n ∧ g = n - k ∧ s18 = .int .i64 k ∧ Below w.heap.size w wr ∧ Toks wr w.heap.size k n K L S)
  case atStart =>
    refine ⟨0, Nat.zero_le _, rfl, rfl, (Below.refl _ _).alloc (Nat.le_refl _) _, fun j => (madeCells #[.int .u8 0, .int .u8 0, .int .i64 0, .string ByteArray.empty, .string ByteArray.empty, .int .i64 0] (n * 6)).getD j default, ⟨_, Deep.blk_alloc_new _ _, size_madeCells _ _, fun i hi => ?_⟩, fun i hi => absurd hi (Nat.not_lt_zero _)⟩
    simp [madeCells, hi]
  case round =>
    obtain ⟨k, hk, rfl, rfl, hB, F, hrow, hdone⟩ := hrel
    by_cases hlt : k < n
    · obtain ⟨rfl, _⟩ := hak (by omega)
      obtain ⟨rfl, _⟩ := hal (by omega)
      obtain ⟨rfl, _⟩ := hav (by omega)
      have h1 : wr.cell? ⟨bk, ok + k, none⟩ = some (.int .u8 (K k)) := (hB.cell (p := ⟨bk, ok + k, none⟩) (World.block_lt_of_cell? _ _ (hck k hlt))).trans (hck k hlt)
      have h2 : wr.cell? ⟨bl, ol + k, none⟩ = some (.int .i64 (L k)) := (hB.cell (p := ⟨bl, ol + k, none⟩) (World.block_lt_of_cell? _ _ (hcl k hlt))).trans (hcl k hlt)
      have h3 : wr.cell? ⟨bv, ov + k, none⟩ = some (.string (S k)) := (hB.cell (p := ⟨bv, ov + k, none⟩) (World.block_lt_of_cell? _ _ (hcv k hlt))).trans (hcv k hlt)
      have hkz : (k : Int) < (n : Int) := by omega
      have e0 : wr.cell? ⟨w.heap.size, k * 6, none⟩ = some (F (k * 6)) := hrow.cell (by omega)
      have e1 := hrow.cell (i := k * 6 + 1) (by omega)
      have e2 := hrow.cell (i := k * 6 + 2) (by omega)
      have e3 := hrow.cell (i := k * 6 + 3) (by omega)
      have e4 := hrow.cell (i := k * 6 + 4) (by omega)
      have e5 := hrow.cell (i := k * 6 + 5) (by omega)
      have hf : ∀ j, wr.frozen? ⟨w.heap.size, j, none⟩ = false := fun j => hrow.frozen j
      go_wp2
      go_region
      go_wp2
      go_roundg (n - (k + 1))
      case measure => go_light; omega
      case rel =>
        go_light
        refine ⟨k + 1, by omega, rfl, by go_num, (put6_below hB (Nat.le_refl _) _ _ _ _ _ _).drew, _, (put6_row hrow _ _ _ _ _ _).drew, fun i hi f hf => ?_⟩
        by_cases e : i = k
        · subst e
          show (if i * 6 ≤ i * 6 + f ∧ i * 6 + f < i * 6 + 6 then _ else _) = _
          rw [if_pos (by omega)]
          have e : i * 6 + f - i * 6 = f := by omega
          rw [e]
          match f, hf with
          | 0, _ => rfl
          | 1, _ => rfl
          | 2, _ => rfl
          | 3, _ => rfl
          | 4, _ => rfl
          | 5, _ => rfl
        · show (if k * 6 ≤ i * 6 + f ∧ i * 6 + f < k * 6 + 6 then _ else _) = _
          rw [if_neg (by omega)]
          exact hdone i (by omega) f hf
    · obtain rfl : n = k := by omega
      go_wp2
      go_ret
      have hT : Toks wr w.heap.size n n K L S := ⟨F, hrow, hdone⟩
      have hlt := hT.lt
      exact ⟨wr.heap.size, w.heap.size, rfl, Nat.le_refl _, hB.size, by omega, Deep.blk_alloc_new _ _, hT.of_block (Deep.blk_alloc_lt _ _ _ hlt), hB.alloc hB.size _⟩
end Go.Proofs.Qxb6601781a
