/- Walks: the two zzBytes, piecesBytes. -/
import Derived.Test.Qxb6601797aBase
import Derived.Deep.LoopGhost
import Derived.Deep.Light
import Derived.Deep.QuietTactic
import Derived.BigQuiet
import Derived.WalkSmall
namespace Go.Proofs.Qxb6601797a
open Go.RowKit

/-- what a zzBytes hands back -/
def RetBool (w : World) (e : Ending) (w' : World) : Prop := ∃ b : Bool, e = .returned (.bool b) ∧ w = w'

set_option maxHeartbeats 2000000 in
theorem bytes_any25 (a an : Option Addr) (n c nn cn lo : Nat) (t : Value) (X : Nat → Pc) (w : World) (hn : n ≤ maxLen) (hnn : nn ≤ maxLen) (hX : ∀ i, i < n → (X i).tn ≤ maxLen ∧ (X i).mn ≤ maxLen) (hr : Row w lo a (n * 31) (pcs X)) :
    Calls Try.prog 25 #[.slice a n c, t, .slice an nn cn] w fun e w' => RetBool w e w' := by
  unfold maxLen at hn hnn
  obtain ⟨b, off, ha, hc⟩ := hr
  by_cases hb : n ≤ 1048576
  · go_enter Try.func25, Try.ntmps25
    go_wp2
    go_loopg [7, 8] n (fun g s7 s8 wr => wr = w ∧ ∃ (t : Int) (k : Nat), k ≤ n ∧ g = n - k ∧ 0 ≤ t ∧ t ≤ 1048576 ∧ s7 = .int .i64 t ∧ s8 = .int .i64 k)
    case atStart => exact ⟨rfl, _, 0, Nat.zero_le _, rfl, by omega, by omega, rfl, rfl⟩
    case round =>
      obtain ⟨rfl, t, k, hk, rfl, ht0, ht1, rfl, rfl⟩ := hrel
      by_cases hlt : k < n
      · obtain ⟨rfl, _⟩ := ha (by omega)
        have e1 : _ = some (Value.slice (X k).ta (X k).tn (X k).tc) := Row.pc hc hlt 18 (by omega)
        have e2 : _ = some (Value.slice (X k).ma (X k).mn (X k).mc) := Row.pc hc hlt 21 (by omega)
        obtain ⟨e3, e4⟩ := hX k hlt
        unfold maxLen at e3 e4
        generalize (X k).ta = ta at e1
        generalize (X k).tc = tc at e1
        generalize (X k).tn = tn at e1 e3
        generalize (X k).ma = ma at e2
        generalize (X k).mc = mc at e2
        generalize (X k).mn = mn at e2 e4
        by_cases hle : t + 16 + tn + mn ≤ 1048576
        · go_wp2
          go_loopg [7, 9] mn (fun g s7 s9 wx => wx = wr ∧ ∃ (t : Int) (j : Nat), j ≤ mn ∧ g = mn - j ∧ 0 ≤ t ∧ t ≤ 1048576 ∧ s7 = .int .i64 t ∧ s9 = .int .i64 j)
          case atStart => exact ⟨rfl, _, 0, Nat.zero_le _, rfl, by omega, by omega, rfl, rfl⟩
          case round =>
            obtain ⟨rfl, t', j, hj, rfl, ht0', ht1', rfl, rfl⟩ := hrel
            by_cases hj' : j < mn
            · go_wp2
              · go_ret
                exact ⟨_, rfl, rfl⟩
              · go_roundg (mn - (j + 1))
                case measure => go_light; omega
                case rel => go_light; exact ⟨rfl, _, j + 1, by omega, rfl, by omega, by omega, rfl, by go_num⟩
            · go_wp2
              go_roundg (n - (k + 1))
              case measure => go_light; omega
              case rel => go_light; exact ⟨rfl, _, k + 1, by omega, rfl, by omega, by omega, rfl, by go_num⟩
        · go_wp2
          all_goals (first | (go_ret; exact ⟨_, rfl, rfl⟩) | omega)
      · go_wp2
        all_goals (go_ret; exact ⟨_, rfl, rfl⟩)
  · go_enter Try.func25, Try.ntmps25
    go_wp2
    all_goals (go_ret; exact ⟨_, rfl, rfl⟩)

set_option maxHeartbeats 2000000 in
theorem bytes_any15 (a an : Option Addr) (n c nn cn lo : Nat) (t : Value) (X : Nat → Pc) (w : World) (hn : n ≤ maxLen) (hnn : nn ≤ maxLen) (hX : ∀ i, i < n → (X i).tn ≤ maxLen ∧ (X i).mn ≤ maxLen) (hr : Row w lo a (n * 31) (pcs X)) :
    Calls Try.prog 15 #[.slice a n c, t, .slice an nn cn] w fun e w' => RetBool w e w' := by
  unfold maxLen at hn hnn
  obtain ⟨b, off, ha, hc⟩ := hr
  by_cases hb : n ≤ 1048576
  · go_enter Try.func15, Try.ntmps15
    go_wp2
    go_loopg [7, 8] n (fun g s7 s8 wr => wr = w ∧ ∃ (t : Int) (k : Nat), k ≤ n ∧ g = n - k ∧ 0 ≤ t ∧ t ≤ 1048576 ∧ s7 = .int .i64 t ∧ s8 = .int .i64 k)
    case atStart => exact ⟨rfl, _, 0, Nat.zero_le _, rfl, by omega, by omega, rfl, rfl⟩
    case round =>
      obtain ⟨rfl, t, k, hk, rfl, ht0, ht1, rfl, rfl⟩ := hrel
      by_cases hlt : k < n
      · obtain ⟨rfl, _⟩ := ha (by omega)
        have e1 : _ = some (Value.slice (X k).ta (X k).tn (X k).tc) := Row.pc hc hlt 18 (by omega)
        have e2 : _ = some (Value.slice (X k).ma (X k).mn (X k).mc) := Row.pc hc hlt 21 (by omega)
        obtain ⟨e3, e4⟩ := hX k hlt
        unfold maxLen at e3 e4
        generalize (X k).ta = ta at e1
        generalize (X k).tc = tc at e1
        generalize (X k).tn = tn at e1 e3
        generalize (X k).ma = ma at e2
        generalize (X k).mc = mc at e2
        generalize (X k).mn = mn at e2 e4
        by_cases hle : t + 16 + tn + mn ≤ 1048576
        · go_wp2
          go_loopg [7, 9] mn (fun g s7 s9 wx => wx = wr ∧ ∃ (t : Int) (j : Nat), j ≤ mn ∧ g = mn - j ∧ 0 ≤ t ∧ t ≤ 1048576 ∧ s7 = .int .i64 t ∧ s9 = .int .i64 j)
          case atStart => exact ⟨rfl, _, 0, Nat.zero_le _, rfl, by omega, by omega, rfl, rfl⟩
          case round =>
            obtain ⟨rfl, t', j, hj, rfl, ht0', ht1', rfl, rfl⟩ := hrel
            by_cases hj' : j < mn
            · go_wp2
              · go_ret
                exact ⟨_, rfl, rfl⟩
              · go_roundg (mn - (j + 1))
                case measure => go_light; omega
                case rel => go_light; exact ⟨rfl, _, j + 1, by omega, rfl, by omega, by omega, rfl, by go_num⟩
            · go_wp2
              go_roundg (n - (k + 1))
              case measure => go_light; omega
              case rel => go_light; exact ⟨rfl, _, k + 1, by omega, rfl, by omega, by omega, rfl, by go_num⟩
        · go_wp2
          all_goals (first | (go_ret; exact ⟨_, rfl, rfl⟩) | omega)
      · go_wp2
        all_goals (go_ret; exact ⟨_, rfl, rfl⟩)
  · go_enter Try.func15, Try.ntmps15
    go_wp2
    all_goals (go_ret; exact ⟨_, rfl, rfl⟩)

theorem below_drewN {B : Nat} {w w1 : World} (h : Below B w w1) (n : Nat) : Below B w (w1.drewN n) := h.trans ⟨rfl, rfl, rfl, Nat.le_refl _, fun _ _ => rfl⟩

/-- what piecesBytes hands back: where it is small, the pieces are few and short -/
def RetPB (w : World) (n : Nat) (X : Nat → Pc) (e : Ending) (w' : World) : Prop :=
  ∃ T : Int, e = .returned (.int .i64 T) ∧ 0 ≤ T ∧ T ≤ 134217728 ∧ (T ≤ 1048576 → 128 * (n : Int) ≤ T ∧ ∀ i, i < n → (X i).tn ≤ 1048576 ∧ (X i).mn ≤ 1048576) ∧ Below w.heap.size w w'

set_option maxHeartbeats 2000000 in
theorem piecesBytes_any (a : Option Addr) (n c lo : Nat) (X : Nat → Pc) (w : World) (hn : n ≤ 65536) (hX : ∀ i, i < n → (X i).tn ≤ maxLen ∧ (X i).mn ≤ maxLen) (hr : Row w lo a (n * 31) (pcs X)) :
    Calls Try.prog 16 #[.slice a n c] w fun e w' => RetPB w n X e w' := by
  obtain ⟨b, off, ha, hc⟩ := hr
  go_enter Try.func16, Try.ntmps16
  go_wp2
  go_loopg [3, 4] n (fun g s3 s4 wr => Below w.heap.size w wr ∧ ∃ (t : Int) (k : Nat), k ≤ n ∧ g = n - k ∧ 0 ≤ t ∧ t ≤ 1048576 ∧ 128 * (k : Int) ≤ t ∧ s3 = .int .i64 t ∧ s4 = .int .i64 k ∧ Hid (∀ i, i < k → (X i).tn ≤ 1048576 ∧ (X i).mn ≤ 1048576))
  case atStart => exact ⟨Below.refl _ _, 0, 0, Nat.zero_le _, rfl, by omega, by omega, by omega, rfl, rfl, fun i hi => by omega⟩
  case round =>
    obtain ⟨hB, t, k, hk, rfl, ht0, ht1, ht2, rfl, rfl, hd⟩ := hrel
    by_cases hlt : k < n
    · obtain ⟨rfl, _⟩ := ha (by omega)
      have hbl : b < w.heap.size := World.block_lt_of_cell? _ _ (Row.pc hc hlt 18 (by omega))
      have e1 : wr.cell? ⟨b, off + k * 31 + 18, none⟩ = some (Value.slice (X k).ta (X k).tn (X k).tc) := (hB.cell (p := ⟨b, off + k * 31 + 18, none⟩) hbl).trans (Row.pc hc hlt 18 (by omega))
      have e2 : wr.cell? ⟨b, off + k * 31 + 21, none⟩ = some (Value.slice (X k).ma (X k).mn (X k).mc) := (hB.cell (p := ⟨b, off + k * 31 + 21, none⟩) hbl).trans (Row.pc hc hlt 21 (by omega))
      obtain ⟨e3, e4⟩ := hX k hlt
      unfold maxLen at e3 e4
      have hkz : (k : Int) < (n : Int) := by omega
      generalize (X k).ta = ta at e1
      generalize (X k).tc = tc at e1
      obtain ⟨tn, htn⟩ : ∃ x, (X k).tn = x := ⟨_, rfl⟩
      rw [htn] at e1 e3
      generalize (X k).ma = ma at e2
      generalize (X k).mc = mc at e2
      obtain ⟨mn, hmn⟩ : ∃ x, (X k).mn = x := ⟨_, rfl⟩
      rw [hmn] at e2 e4
      have Htn : Hid ((X k).tn = tn) := htn
      have Hmn : Hid ((X k).mn = mn) := hmn
      clear htn hmn
      by_cases g1 : tn ≤ 1048576
      · by_cases g2 : mn ≤ 1048576
        · have hd' : ∀ i, i < k + 1 → (X i).tn ≤ 1048576 ∧ (X i).mn ≤ 1048576 := fun i hi => by
            by_cases e : i = k
            · subst e
              have q1 : (X i).tn = tn := Htn
              have q2 : (X i).mn = mn := Hmn
              omega
            · exact hd i (by omega)
          have Hd' : Hid (∀ i, i < k + 1 → (X i).tn ≤ 1048576 ∧ (X i).mn ≤ 1048576) := hd'
          clear hd' hd hX
          by_cases g3 : t + (128 + 4 * (tn : Int) + 32 * (mn : Int)) ≤ 1048576
          · go_wp2
            go_quiet (fail)
            go_wp2
            go_roundg (n - (k + 1))
            case measure => go_light; omega
            case rel => go_light; exact ⟨below_drewN hB _, _, k + 1, by omega, rfl, by omega, by omega, by omega, rfl, by go_num, Hd'⟩
          · go_wp2
            go_quiet (fail)
            go_wp2
            go_ret
            exact ⟨_, rfl, by omega, by omega, fun h => by omega, below_drewN hB _⟩
        · go_wp2
          go_ret
          exact ⟨_, rfl, by omega, by omega, fun h => by omega, hB⟩
      · go_wp2
        go_ret
        exact ⟨_, rfl, by omega, by omega, fun h => by omega, hB⟩
    · obtain rfl : n = k := by omega
      go_wp2
      go_ret
      exact ⟨t, rfl, ht0, by omega, fun _ => ⟨ht2, hd⟩, hB⟩
end Go.Proofs.Qxb6601797a
