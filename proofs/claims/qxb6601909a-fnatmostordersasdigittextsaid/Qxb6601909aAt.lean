/- Walks: significant, atMost, ZZAtMost. -/
import Derived.Test.Qxb6601909aText
import Derived.Laws.IdiomStrings
namespace Go.Proofs.Qxb6601909a
open Go.RowKit

def RetStr (s : ByteArray) (w : World) (e : Ending) (w' : World) : Prop := e = .returned (.string s) ∧ Below w.heap.size w w'

theorem sig_any (s : ByteArray) (z : Nat) (_hs : s.size ≤ maxLen) (hz : z ≤ s.size) (w : World) :
    Calls Try.prog 13 #[.agg #[.string s, .int .i64 z]] w fun e w' => RetStr (s.extract z s.size) w e w' := by
  unfold maxLen at _hs
  go_enter Try.func13, Try.ntmps13
  go_wp2
  go_ret
  exact ⟨rfl, (Below.refl _ _).alloc (Nat.le_refl _) _⟩

/-- the number that the first k digits write -/
def val (s : ByteArray) : Nat → Nat
  | 0 => 0
  | k + 1 => 10 * val s k + (dg s k - 48)

theorem val_lt {s : ByteArray} (hd : Dec s) : ∀ {k : Nat}, k ≤ s.size → val s k < 10 ^ k
  | 0, _ => by simp [val]
  | k + 1, h => by
    have h1 := val_lt hd (k := k) (by omega)
    have h2 := hd k (by omega)
    simp only [val, Nat.pow_succ]
    omega

def RetAt (v : Nat) (bound : Int) (w : World) (e : Ending) (w' : World) : Prop := e = .returned (.tuple #[.int .i64 v, .bool (decide ((v : Int) ≤ bound))]) ∧ Below w.heap.size w w'

theorem bytesRow_at (d : ByteArray) (c : Nat) {i : Nat} (hi : i < d.size) : (bytesRow d c)[i]? = some (.int .u8 (dg d i : Nat)) := by
  have h' : i < d.data.size := hi
  unfold bytesRow dg
  rw [Array.getElem?_append_left (by simpa using h')]
  simp only [Array.getD, dif_pos h', Array.getElem?_map, Array.getElem?_eq_getElem h', Option.map_some]
  rfl

set_option maxHeartbeats 1000000 in
theorem at_any (s : ByteArray) (z : Nat) (bound : Int) (hs : s.size ≤ maxLen) (hz : z ≤ s.size) (hd : Dec (s.extract z s.size)) (hn : (s.extract z s.size).size < 19) (w : World) :
    Calls Try.prog 12 #[.agg #[.string s, .int .i64 z], .int .i64 bound] w fun e w' => RetAt (val (s.extract z s.size) (s.extract z s.size).size) bound w e w' := by
  have hB0 : Below w.heap.size w (w.alloc (Obj.cells #[Value.string s, Value.int IntKind.i64 ↑z] 31)) := (Below.refl _ _).alloc (Nat.le_refl _) _
  have hc := sig_any s z hs hz
  generalize hdd : s.extract z s.size = d at hd hn hc ⊢
  have Hd : Hid (Dec d) := hd
  clear hd hdd
  go_enter Try.func12, Try.ntmps12
  go_wp2_with fail
  refine (hc _).mono ?_
  rintro e w1 ⟨rfl, hB1⟩
  have hB : Below w.heap.size w w1 := hB0.trans (hB1.mono hB0.size)
  clear hB0 hB1 hc
  have kc := fun wx => run_bytes_of_string (P := Try.prog) wx 9 34 5 d Try.underlying9 Try.underlying34 Try.underlying5
  have hcell : Hid (∀ (c : Nat) (m : Nat × Nat) i, i < d.size → (w1.drew.alloc (.cells (bytesRow d c) 5 m)).cell? ⟨w1.heap.size, i, none⟩ = some (.int .u8 (dg d i : Nat))) := by
    show ∀ (c : Nat) (m : Nat × Nat) i, i < d.size → (w1.drew.alloc (.cells (bytesRow d c) 5 m)).cell? ⟨w1.heap.size, i, none⟩ = some (.int .u8 (dg d i : Nat))
    intro c m i hi
    exact (World.cell?_alloc_mark w1.drew _ _ _ _).trans (bytesRow_at d c hi)
  go_wp2
  go_loopg [7, 18] d.size (fun q s7 s18 wr => Below w.heap.size w wr ∧ (∀ i, i < d.size → wr.cell? ⟨w1.heap.size, i, none⟩ = some (.int .u8 (dg d i : Nat))) ∧ ∃ k, k ≤ d.size ∧ q = d.size - k ∧ s18 = .int .i64 k ∧ s7 = .int .i64 (val d k : Nat))
  case atStart => exact ⟨(hB.drew).alloc hB.size _, hcell _ _, 0, Nat.zero_le _, rfl, rfl, rfl⟩
  case round =>
    obtain ⟨hBr, hcr, k, hk, rfl, rfl, rfl⟩ := hrel
    by_cases hlt : k < d.size
    · have e1 := hcr k hlt
      obtain ⟨g1, g2⟩ := Hd k hlt
      have hv : val d k < 100000000000000000 := Nat.lt_of_lt_of_le (val_lt Hd hk) (by
        exact Nat.pow_le_pow_right (by omega) (by omega : k ≤ 17))
      have hs1 : Hid (val d (k + 1) = 10 * val d k + (dg d k - 48)) := rfl
      have Hcr : Hid (∀ i, i < d.size → wr.cell? ⟨w1.heap.size, i, none⟩ = some (.int .u8 (dg d i : Nat))) := hcr
      clear hcr hcell
      generalize dg d k = x at e1 g1 g2 hs1
      generalize val d k = v at hv hs1
      go_wp2
      go_roundg (d.size - (k + 1))
      case measure => go_light; omega
      case rel =>
        go_light
        refine ⟨hBr, Hcr, k + 1, by omega, rfl, by go_num, ?_⟩
        have h : val d (k + 1) = 10 * v + (x - 48) := hs1
        rw [h]
        congr 1
        omega
    · obtain rfl : k = d.size := by omega
      by_cases hbd : ((val d d.size : Nat) : Int) ≤ bound
      · have hdec : Hid (decide (((val d d.size : Nat) : Int) ≤ bound) = true) := decide_eq_true hbd
        go_wp2
        go_ret2
        refine ⟨?_, hBr⟩
        rw [show decide (((val d d.size : Nat) : Int) ≤ bound) = true from hdec]
        rfl
      · have hdec : Hid (decide (((val d d.size : Nat) : Int) ≤ bound) = false) := decide_eq_false hbd
        go_wp2
        go_ret2
        refine ⟨?_, hBr⟩
        rw [show decide (((val d d.size : Nat) : Int) ≤ bound) = false from hdec]
        rfl

theorem zat_any (s : ByteArray) (z : Nat) (bound : Int) (hs : s.size ≤ maxLen) (hz : z ≤ s.size) (hd : Dec (s.extract z s.size)) (hn : (s.extract z s.size).size < 19) (w : World) :
    Calls Try.prog 7 #[.string s, .int .i64 z, .int .i64 bound] w fun e w' => RetAt (val (s.extract z s.size) (s.extract z s.size).size) bound w e w' := by
  have hc := at_any s z bound hs hz hd hn
  generalize val (s.extract z s.size) (s.extract z s.size).size = v at hc ⊢
  clear hd hn
  go_enter Try.func7, Try.ntmps7
  go_wp2_with fail
  refine (hc _).mono ?_
  rintro e w1 ⟨rfl, hB1⟩
  go_wp2
  go_ret2
  exact ⟨rfl, hB1⟩
end Go.Proofs.Qxb6601909a
