/- Walks: zzBytes, zzDecimal, zzLeadingZeros, zzTextLess. -/
import Derived.Test.Qxb6601909aChecked
import Derived.WalkKit
import Derived.Below
import Derived.Deep.LoopGhost
import Derived.Deep.Light
import Derived.Deep.QuietTactic
import Derived.BigQuiet
import Derived.WalkSmall
import Derived.WalkSpells
namespace Go.Proofs.Qxb6601909a
open Go.RowKit

/-- the byte at i -/
def dg (s : ByteArray) (i : Nat) : Nat := (s.data.getD i 0).toNat
theorem dg_at {s : ByteArray} {i : Nat} (h : i < s.size) : s[i].toNat = dg s i := by
  have h' : i < s.data.size := h
  unfold dg
  simp only [Array.getD, dif_pos h']
  rfl

def RetBytes (x y : ByteArray) (w : World) (e : Ending) (w' : World) : Prop := ∃ b : Bool, e = .returned (.bool b) ∧ w = w' ∧ (b = true → x.size ≤ 1048576 ∧ y.size ≤ 1048576)

theorem bytes_any (a b : ByteArray) (x y z : Value) (ha : a.size ≤ maxLen) (hb : b.size ≤ maxLen) (w : World) :
    Calls Try.prog 9 #[.string a, x, .string b, y, z] w fun e w' => RetBytes a b w e w' := by
  unfold maxLen at ha hb
  by_cases h1 : a.size ≤ 1048576 <;> by_cases h2 : b.size ≤ 1048576
  all_goals
    go_enter Try.func9, Try.ntmps9
    go_wp2
    all_goals (go_ret; first | exact ⟨_, rfl, rfl, fun _ => ⟨h1, h2⟩⟩ | exact ⟨_, rfl, rfl, nofun⟩)

/-- all bytes are decimal digits -/
def Dec (s : ByteArray) : Prop := ∀ i, i < s.size → 48 ≤ dg s i ∧ dg s i ≤ 57
def RetDec (s : ByteArray) (w : World) (e : Ending) (w' : World) : Prop := ∃ b : Bool, e = .returned (.bool b) ∧ w = w' ∧ (b = true → Dec s)

theorem decimal_any (s : ByteArray) (hs : s.size ≤ maxLen) (w : World) :
    Calls Try.prog 6 #[.string s] w fun e w' => RetDec s w e w' := by
  unfold maxLen at hs
  go_enter Try.func6, Try.ntmps6
  go_wp2
  go_loopg [3] s.size (fun q s3 wr => w = wr ∧ ∃ k, k ≤ s.size ∧ q = s.size - k ∧ s3 = .int .i64 k ∧ Hid (∀ i, i < k → 48 ≤ dg s i ∧ dg s i ≤ 57))
  case atStart => exact ⟨rfl, 0, Nat.zero_le _, rfl, rfl, fun i hi => by omega⟩
  case round =>
    obtain ⟨rfl, k, hk, rfl, rfl, hd⟩ := hrel
    by_cases hlt : k < s.size
    · have hdg := dg_at hlt
      by_cases g : 48 ≤ s[k].toNat ∧ s[k].toNat ≤ 57
      · have hd' : Hid (∀ i, i < k + 1 → 48 ≤ dg s i ∧ dg s i ≤ 57) := by
          show ∀ i, i < k + 1 → 48 ≤ dg s i ∧ dg s i ≤ 57
          intro i hi
          by_cases e : i = k
          · subst e; omega
          · exact hd i (by omega)
        clear hd hdg
        obtain ⟨g1, g2⟩ := g
        go_wp2
        go_roundg (s.size - (k + 1))
        case measure => go_light; omega
        case rel => go_light; exact ⟨rfl, k + 1, by omega, rfl, by go_num, hd'⟩
      · clear hdg
        by_cases g1 : 48 ≤ s[k].toNat
        · have g2 : ¬ s[k].toNat ≤ 57 := fun h => g ⟨g1, h⟩
          clear g
          go_wp2
          go_ret
          exact ⟨_, rfl, rfl, fun h => by cases h⟩
        · clear g
          go_wp2
          go_ret
          exact ⟨_, rfl, rfl, fun h => by cases h⟩
    · go_wp2
      go_ret
      exact ⟨_, rfl, rfl, fun _ i hi => hd i (by omega)⟩

/-- z of the bytes are passed; the next, if there is one, is no '0' -/
structure Zeros (s : ByteArray) (z : Nat) : Prop where
  le : z ≤ s.size
  stop : z < s.size → dg s z ≠ 48
def RetZeros (s : ByteArray) (w : World) (e : Ending) (w' : World) : Prop := ∃ z : Nat, e = .returned (.int .i64 z) ∧ w = w' ∧ Zeros s z

theorem zeros_any (s : ByteArray) (hs : s.size ≤ maxLen) (w : World) :
    Calls Try.prog 10 #[.string s] w fun e w' => RetZeros s w e w' := by
  unfold maxLen at hs
  go_enter Try.func10, Try.ntmps10
  go_wp2
  go_loopg [3] s.size (fun q s3 wr => w = wr ∧ ∃ k, k ≤ s.size ∧ q = s.size - k ∧ s3 = .int .i64 k)
  case atStart => exact ⟨rfl, 0, Nat.zero_le _, rfl, rfl⟩
  case round =>
    obtain ⟨rfl, k, hk, rfl, rfl⟩ := hrel
    by_cases hlt : k < s.size
    · have hdg := dg_at hlt
      by_cases g : s[k].toNat = 48
      · clear hdg
        go_wp2
        go_roundg (s.size - (k + 1))
        case measure => go_light; omega
        case rel => go_light; exact ⟨rfl, k + 1, by omega, rfl, by go_num⟩
      · have hz : Hid (Zeros s k) := ⟨hk, fun _ => by omega⟩
        clear hdg
        go_wp2
        go_ret
        exact ⟨_, rfl, rfl, hz⟩
    · have hz : Hid (Zeros s k) := ⟨hk, fun h => absurd h hlt⟩
      go_wp2
      go_ret
      exact ⟨_, rfl, rfl, hz⟩

/-- shorter first, then by the first byte that differs -/
def Less (s t : ByteArray) : Prop := s.size < t.size ∨ (s.size = t.size ∧ ∃ i, i < s.size ∧ (∀ j, j < i → dg s j = dg t j) ∧ dg s i < dg t i)
def RetLess (s t : ByteArray) (w : World) (e : Ending) (w' : World) : Prop := ∃ b : Bool, e = .returned (.bool b) ∧ Below w.heap.size w w' ∧ (b = true ↔ Less s t)

theorem less_ne {s t : ByteArray} (h : s.size ≠ t.size) : Less s t ↔ s.size < t.size :=
  ⟨fun h' => h'.elim id fun h'' => absurd h''.1 h, .inl⟩
theorem less_at {s t : ByteArray} {k : Nat} (h : s.size = t.size) (hk : k < s.size) (he : ∀ j, j < k → dg s j = dg t j) (hd : dg s k ≠ dg t k) : Less s t ↔ dg s k < dg t k := by
  constructor
  · rintro (h' | ⟨_, i, hi, hj, hl⟩)
    · omega
    · rcases Nat.lt_trichotomy i k with h1 | h1 | h1
      · have := he i h1; omega
      · subst h1; exact hl
      · exact absurd (hj k h1) hd
  · exact fun hl => .inr ⟨h, k, hk, he, hl⟩
theorem less_none {s t : ByteArray} (h : s.size = t.size) (he : ∀ j, j < s.size → dg s j = dg t j) : ¬ Less s t := by
  rintro (h' | ⟨_, i, hi, hj, hl⟩)
  · omega
  · have := he i hi; omega

set_option maxHeartbeats 1000000 in
theorem less_any (s t : ByteArray) (hs : s.size ≤ maxLen) (_ht : t.size ≤ maxLen) (w : World) :
    Calls Try.prog 11 #[.string s, .string t] w fun e w' => RetLess s t w e w' := by
  unfold maxLen at hs _ht
  by_cases hne : s.size = t.size
  · go_enter Try.func11, Try.ntmps11
    go_wp2
    go_loopg [5] s.size (fun q s5 wr => Below w.heap.size w wr ∧ ∃ k, k ≤ s.size ∧ q = s.size - k ∧ s5 = .int .i64 k ∧ Hid (∀ i, i < k → dg s i = dg t i))
    case atStart => exact ⟨Below.refl _ _, 0, Nat.zero_le _, rfl, rfl, fun i hi => by omega⟩
    case round =>
      obtain ⟨hB, k, hk, rfl, rfl, hd⟩ := hrel
      by_cases hlt : k < s.size
      · have hlt2 : k < t.size := by omega
        have d1 := dg_at hlt
        have d2 := dg_at hlt2
        by_cases g : s[k].toNat = t[k].toNat
        · have hd' : Hid (∀ i, i < k + 1 → dg s i = dg t i) := by
            show ∀ i, i < k + 1 → dg s i = dg t i
            intro i hi
            by_cases e : i = k
            · subst e; omega
            · exact hd i (by omega)
          clear hd d1 d2
          go_wp2
          go_quiet (fail)
          go_wp2
          go_roundg (s.size - (k + 1))
          case measure => go_light; omega
          case rel => go_light; exact ⟨below_drewN hB _, k + 1, by omega, rfl, by go_num, hd'⟩
        · have hl : Hid (Less s t ↔ s[k].toNat < t[k].toNat) := by
            show Less s t ↔ s[k].toNat < t[k].toNat
            rw [less_at hne hlt hd (by omega), d1, d2]
          clear hd d1 d2
          by_cases g' : s[k].toNat < t[k].toNat
          · go_wp2
            go_quiet (fail)
            go_wp2
            go_quiet (fail)
            go_wp2
            go_ret
            exact ⟨_, rfl, below_drewN (below_drewN hB _) _, ⟨fun _ => hl.2 g', fun _ => rfl⟩⟩
          · go_wp2
            go_quiet (fail)
            go_wp2
            go_quiet (fail)
            go_wp2
            go_ret
            exact ⟨_, rfl, below_drewN (below_drewN hB _) _, ⟨fun h => by simp at h, fun h => absurd (hl.1 h) g'⟩⟩
      · have hn : Hid (¬ Less s t) := less_none hne fun j hj => hd j (by omega)
        go_wp2
        go_ret
        exact ⟨_, rfl, hB, ⟨nofun, fun h => absurd h hn⟩⟩
  · have hl := less_ne hne
    by_cases g : s.size < t.size
    · have hl' : Hid (Less s t) := hl.2 g
      clear hl
      go_enter Try.func11, Try.ntmps11
      go_wp2
      go_ret
      exact ⟨_, rfl, Below.refl _ _, ⟨fun _ => hl', fun _ => rfl⟩⟩
    · have hl' : Hid (¬ Less s t) := fun h => g (hl.1 h)
      clear hl
      go_enter Try.func11, Try.ntmps11
      go_wp2
      go_ret
      exact ⟨_, rfl, Below.refl _ _, ⟨nofun, fun h => absurd h hl'⟩⟩
end Go.Proofs.Qxb6601909a
