/- Walks: api.ZZMakeLinks, api.ZZReachCounts. -/
import Derived.Test.Qxb6601698aReachBase
import Derived.Deep.QuietTactic
import Derived.BigQuiet
namespace Go.Proofs.Qxb6601698a
open Go.RowKit Go.Maps

set_option maxHeartbeats 1000000 in
theorem makeLinks_any (r : Option Nat) (an ad au am ac : Option Addr) (nn nd nu nm nc cn cd cu cm cc : Nat) (w : World) :
    Calls Try.prog 16 #[.map r, .slice an nn cn, .slice ad nd cd, .slice au nu cu, .slice am nm cm, .slice ac nc cc] w fun e w' =>
      e = .returned (.agg #[.map r, .slice an nn cn, .slice ad nd cd, .slice au nu cu, .slice am nm cm, .slice ac nc cc]) ∧ Below w.heap.size w w' := by
  go_enter Try.func16, Try.ntmps16
  go_wp2
  exact bodyPost_ret (v := .agg #[.map r, .slice an nn cn, .slice ad nd cd, .slice au nu cu, .slice am nm cm, .slice ac nc cc]) (by simp [results, Try.results16, go_sem]) rfl ⟨rfl, (Below.refl _ _).alloc (Nat.le_refl _) _⟩

set_option maxHeartbeats 1000000 in
theorem reachCounts_any (R k bd bu bo : Nat) (w : World) (h6 : w.cell? ⟨R, 6, none⟩ = some (.slice (some ⟨bd, 0, none⟩) k k)) (h7 : w.cell? ⟨R, 7, none⟩ = some (.slice (some ⟨bu, 0, none⟩) k k)) (h8 : w.cell? ⟨R, 8, none⟩ = some (.map (some bo))) :
    Calls Try.prog 17 #[.pointer (some ⟨R, 0, none⟩)] w fun e w' =>
      e = .returned (.tuple #[.slice (some ⟨bd, 0, none⟩) k k, .slice (some ⟨bu, 0, none⟩) k k, .map (some bo)]) ∧ ∃ q, w' = w.drewN q := by
  go_enter Try.func17, Try.ntmps17
  go_wp2
  go_quiet (fail)
  go_wp2
  go_ret3
  exact ⟨rfl, _, rfl⟩
end Go.Proofs.Qxb6601698a
