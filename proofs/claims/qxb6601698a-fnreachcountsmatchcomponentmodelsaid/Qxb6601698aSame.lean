/- Walk: zzB1SameInts, where the two are the same. -/
import Derived.Test.Qxb6601698aClone2
import Derived.Deep.QuietTactic
import Derived.BigQuiet
import Derived.WalkSmall
namespace Go.Proofs.Qxb6601698a
open Go.RowKit Go.Maps

/-- what zzB1SameInts hands back there -/
def RetSame (w : World) (e : Ending) (w' : World) : Prop := e = .returned (.bool true) ∧ Below w.heap.size w w'

set_option maxHeartbeats 1000000 in
theorem same_any (a b : Option Addr) (k ca cb lo : Nat) (f g : Nat → Int) (w : World) (hk : k ≤ 65536) (hf : Row w lo a k (fun i => .int .i64 (f i))) (hg : Row w lo b k (fun i => .int .i64 (g i))) (hfg : ∀ i, i < k → f i = g i) :
    Calls Try.prog 19 #[.slice a k ca, .slice b k cb] w fun e w' => RetSame w e w' := by
  have hg' : Row w lo b k (fun i => .int .i64 (f i)) := hg.congr (fun i hi => by rw [hfg i hi])
  clear hg hfg
  obtain ⟨ba, oa, haa, hca⟩ := hf
  obtain ⟨bb, ob, hab, hcb⟩ := hg'
  go_enter Try.func19, Try.ntmps19
  go_wp2
  go_loopg [5] k (fun q s5 wr => ∃ i : Nat, i ≤ k ∧ q = k - i ∧ s5 = .int .i64 i ∧ Below w.heap.size w wr)
  case atStart => exact ⟨0, Nat.zero_le _, rfl, rfl, Below.refl _ _⟩
  case round =>
    obtain ⟨i, hi0, rfl, rfl, hB⟩ := hrel
    by_cases hi : i < k
    · obtain ⟨rfl, _⟩ := haa (by omega)
      obtain ⟨rfl, _⟩ := hab (by omega)
      have hb1 : ba < w.heap.size := World.block_lt_of_cell? _ _ (hca i hi)
      have hb2 : bb < w.heap.size := World.block_lt_of_cell? _ _ (hcb i hi)
      have h1 : wr.cell? ⟨ba, oa + i, none⟩ = some (.int .i64 (f i)) := (hB.cell (p := ⟨ba, oa + i, none⟩) hb1).trans (hca i hi)
      have h2 : wr.cell? ⟨bb, ob + i, none⟩ = some (.int .i64 (f i)) := (hB.cell (p := ⟨bb, ob + i, none⟩) hb2).trans (hcb i hi)
      have hiz : (i : Int) < (k : Int) := by omega
      go_wp2
      go_quiet (fail)
      go_wp2
      go_roundg (k - (i + 1))
      case measure => go_light; omega
      case rel => go_light; exact ⟨i + 1, by omega, rfl, by go_num, below_drewN hB _⟩
    · obtain rfl : k = i := by omega
      go_wp2
      go_ret
      exact ⟨rfl, hB⟩
end Go.Proofs.Qxb6601698a
