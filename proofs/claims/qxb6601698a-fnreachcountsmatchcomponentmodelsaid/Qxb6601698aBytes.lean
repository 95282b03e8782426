/- Walks: zzB1StrBytes, zzB1IntsBytes. -/
import Derived.Test.Qxb6601698aBase
import Derived.Deep.LoopGhost
import Derived.Deep.Light
namespace Go.Proofs.Qxb6601698a
open Go.RowKit

set_option maxHeartbeats 1000000 in
theorem strBytes_any (a : Option Addr) (n cap lo : Nat) (S : Nat → ByteArray) (w : World) (hn : n ≤ 65536)
    (hS : ∀ i, i < n → (S i).size ≤ maxLen) (hr : Row w lo a n (fun i => .string (S i))) :
    Calls Try.prog 9 #[.slice a n cap] w fun e w' => ∃ t : Int, e = .returned (.int .i64 t) ∧ 0 ≤ t ∧ t ≤ 1048577 ∧ w' = w := by
  obtain ⟨b, off, ha, hc⟩ := hr
  go_enter Try.func9, Try.ntmps9
  go_wp2
  go_loopg [3, 4] n (fun g s3 s4 wr => wr = w ∧ ∃ (t : Int) (k : Nat), k ≤ n ∧ g = n - k ∧ 0 ≤ t ∧ t ≤ 1048576 ∧ s3 = .int .i64 t ∧ s4 = .int .i64 k)
  case atStart => exact ⟨rfl, _, 0, Nat.zero_le _, rfl, by omega, by omega, rfl, rfl⟩
  case round =>
    obtain ⟨rfl, t, k, hk, rfl, ht0, ht1, rfl, rfl⟩ := hrel
    by_cases hlt : k < n
    · obtain ⟨rfl, _⟩ := ha (by omega)
      have h1 := hc k hlt
      have h2 := hS k hlt
      unfold maxLen at h2
      go_wp2
      · go_ret
        exact ⟨_, rfl, by omega, by omega, rfl⟩
      · go_ret
        exact ⟨_, rfl, by omega, by omega, rfl⟩
      · go_roundg (n - (k + 1))
        case measure => go_light; omega
        case rel => go_light; exact ⟨rfl, _, k + 1, by omega, rfl, by omega, by omega, rfl, by go_num⟩
    · go_wp2
      go_ret
      exact ⟨_, rfl, by omega, by omega, rfl⟩

set_option maxHeartbeats 1000000 in
theorem intsBytes_any (a : Option Addr) (n cap lo : Nat) (L : Nat → Nat) (Z : Nat → Nat → Int) (w : World) (hn : n ≤ 65536)
    (hL : ∀ i, i < n → L i ≤ 9223372036854775807) (hr : Mat w lo a n L Z) :
    Calls Try.prog 10 #[.slice a n cap] w fun e w' => ∃ t : Int, e = .returned (.int .i64 t) ∧ 0 ≤ t ∧ t ≤ 1048577 ∧ (t ≤ 1048576 → ∀ i, i < n → L i ≤ 1048576) ∧ w' = w := by
  obtain ⟨A, C, ⟨b, off, ha, hc⟩, _⟩ := hr
  go_enter Try.func10, Try.ntmps10
  go_wp2
  go_loopg [3, 4] n (fun g s3 s4 wr => wr = w ∧ ∃ (t : Int) (k : Nat), k ≤ n ∧ g = n - k ∧ 0 ≤ t ∧ t ≤ 1048576 ∧ (∀ i, i < k → L i ≤ 1048576) ∧ s3 = .int .i64 t ∧ s4 = .int .i64 k)
  case atStart => exact ⟨rfl, _, 0, Nat.zero_le _, rfl, by omega, by omega, fun i hi => by omega, rfl, rfl⟩
  case round =>
    obtain ⟨rfl, t, k, hk, rfl, ht0, ht1, hLk, rfl, rfl⟩ := hrel
    have HL : Hid (∀ i, i < k → L i ≤ 1048576) := hLk
    clear hLk
    by_cases hlt : k < n
    · obtain ⟨rfl, _⟩ := ha (by omega)
      have h1 := hc k hlt
      have h2 := hL k hlt
      go_wp2
      · go_ret
        exact ⟨_, rfl, by omega, by omega, fun h => by omega, rfl⟩
      · go_ret
        exact ⟨_, rfl, by omega, by omega, fun h => by omega, rfl⟩
      · go_roundg (n - (k + 1))
        case measure => go_light; omega
        case rel =>
          go_light
          refine ⟨rfl, _, k + 1, by omega, rfl, by omega, by omega, fun i hi => ?_, rfl, by go_num⟩
          by_cases e : i = k
          · subst e; omega
          · exact HL.out i (by omega)
    · go_wp2
      go_ret
      exact ⟨_, rfl, by omega, by omega, fun _ i hi => HL.out i (by omega), rfl⟩
end Go.Proofs.Qxb6601698a
