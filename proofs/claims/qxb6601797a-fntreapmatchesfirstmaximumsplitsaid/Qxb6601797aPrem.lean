/- Walk: treapPremise. -/
import Derived.Test.Qxb6601797aBytes
namespace Go.Proofs.Qxb6601797a
open Go.RowKit

/-- is i among the first k of N? -/
def sn (N : Nat → Int) (k i : Nat) : Bool := (List.range k).any (fun j => decide (N j = (i : Int)))
theorem sn_zero (N : Nat → Int) (i : Nat) : sn N 0 i = false := by simp [sn]
theorem sn_succ (N : Nat → Int) (k i : Nat) : sn N (k + 1) i = (sn N k i || decide (N k = (i : Int))) := by
  unfold sn
  rw [List.range_succ, List.any_append]
  simp
theorem sn_iff (N : Nat → Int) (k i : Nat) : sn N k i = true ↔ ∃ j, j < k ∧ N j = (i : Int) := by
  unfold sn
  simp

/-- what the premise says of the first k of N -/
structure Prem (n k : Nat) (τ : Nat) (X : Nat → Pc) (N : Nat → Int) : Prop where
  rng : ∀ i, i < k → 0 < N i ∧ N i < n
  inj : ∀ i j, i < k → j < k → N i = N j → i = j
  zero : ∀ i, i < k → ∀ c, c < 3 → (X (N i).toNat).pl (τ * 3 + c) = 0

/-- what treapPremise hands back -/
def RetPrem (w : World) (n nn : Nat) (t : Int) (X : Nat → Pc) (N : Nat → Int) (e : Ending) (w' : World) : Prop :=
  Below w.heap.size w w' ∧ ((∃ v, e = .returned (.tuple #[.bool false, v])) ∨
    ∃ a τ, e = .returned (.tuple #[.bool true, .slice a n n]) ∧ τ < 2 ∧ t = (τ : Nat) ∧ Prem n nn τ X N ∧ Row w' w.heap.size a n (fun i => .bool (sn N nn i)))

theorem pl_cell (x : Pc) {τ c : Nat} (hτ : τ < 2) (hc : c < 3) : x.cell (23 + (τ * 3 + c)) = .int .i32 (x.pl (τ * 3 + c)) := by
  match τ, hτ, c, hc with
  | 0, _, 0, _ => rfl
  | 0, _, 1, _ => rfl
  | 0, _, 2, _ => rfl
  | 1, _, 0, _ => rfl
  | 1, _, 1, _ => rfl
  | 1, _, 2, _ => rfl

set_option maxHeartbeats 2000000 in
theorem prem_any (a an : Option Addr) (n c nn cn lo : Nat) (t : Int) (X : Nat → Pc) (N : Nat → Int) (w : World) (hn : n ≤ 65536) (hnn : nn ≤ 65536)
    (hr : Row w lo a (n * 31) (pcs X)) (hN : Row w lo an nn (fun i => .int .i32 (N i))) (hNr : ∀ i, i < nn → -2147483648 ≤ N i ∧ N i ≤ 2147483647) :
    Calls Try.prog 17 #[.slice a n c, .int .i64 t, .slice an nn cn] w fun e w' => RetPrem w n nn t X N e w' := by
  obtain ⟨b, off, ha, hc⟩ := hr
  obtain ⟨bn, on, han, hcn⟩ := hN
  have hmk := run_make_row' (P := Try.prog) 55 4 (.bool false) 1 Try.underlying55 Try.info4 rfl .i64 .i64 n (by omega) (by omega)
  by_cases ht : 0 ≤ t ∧ t ≤ 1
  · obtain ⟨τ, rfl⟩ : ∃ τ : Nat, t = (τ : Int) := ⟨t.toNat, by omega⟩
    have hτ : τ < 2 := by omega
    have hτ0 : (0 : Int) ≤ (τ : Int) := by omega
    have hτ1 : (τ : Int) ≤ 1 := by omega
    clear ht
    go_enter Try.func17, Try.ntmps17
    go_wp2
    clear hmk
    go_loopg [9] nn (fun g s9 wr => ∃ k : Nat, k ≤ nn ∧ g = nn - k ∧ s9 = .int .i64 k ∧ Below w.heap.size w wr ∧ wr.rowIs w.heap.size 4 n (fun i => .bool (sn N k i)) ∧ Prem n k τ X N)
    case atStart =>
      refine ⟨0, Nat.zero_le _, rfl, rfl, (Below.refl _ _).alloc (Nat.le_refl _) _, ⟨_, Deep.blk_alloc_new _ _, size_madeCells _ _, fun i hi => ?_⟩, fun i hi => by omega, fun i j hi => by omega, fun i hi => by omega⟩
      simp [madeCells, hi, sn_zero, Nat.mod_one]
    case round =>
      obtain ⟨k, hk, rfl, rfl, hB, hrow, hP⟩ := hrel
      by_cases hlt : k < nn
      · obtain ⟨rfl, _⟩ := han (by omega)
        have hbl : bn < w.heap.size := World.block_lt_of_cell? _ _ (hcn k hlt)
        have e1 : wr.cell? ⟨bn, on + k, none⟩ = some (.int .i32 (N k)) := (hB.cell (p := ⟨bn, on + k, none⟩) hbl).trans (hcn k hlt)
        obtain ⟨g3, g4⟩ := hNr k hlt
        by_cases g1 : 0 < N k
        · by_cases g2 : N k < (n : Int)
          · obtain ⟨m, hm⟩ : ∃ m : Nat, N k = (m : Int) := ⟨(N k).toNat, by omega⟩
            rw [hm] at e1 g1 g2
            have Hm : Hid (N k = (m : Int)) := hm
            clear hm
            have hmn : m < n := by omega
            have y0 : wr.cell? ⟨w.heap.size, m, none⟩ = some (.bool (sn N k m)) := hrow.cell hmn
            have z0 : wr.frozen? ⟨w.heap.size, m, none⟩ = false := hrow.frozen m
            cases hs : sn N k m with
            | true =>
              rw [hs] at y0
              go_wp2
              go_ret2
              exact ⟨hB, .inl ⟨_, rfl⟩⟩
            | false =>
              rw [hs] at y0
              obtain ⟨rfl, _⟩ := ha (by omega)
              have hbl2 : b < w.heap.size := World.block_lt_of_cell? _ _ (Row.pc hc hmn 18 (by omega))
              have hbne : b ≠ w.heap.size := by omega
              have dd : ∀ c, c < 3 → wr.cell? ⟨b, off + m * 31 + 23 + τ * 3 + c, none⟩ = some (.int .i32 ((X m).pl (τ * 3 + c))) := fun c h3 => by
                rw [show off + m * 31 + 23 + τ * 3 + c = off + m * 31 + (23 + (τ * 3 + c)) by omega]
                exact (hB.cell (p := ⟨b, off + m * 31 + (23 + (τ * 3 + c)), none⟩) hbl2).trans ((Row.pc hc hmn (23 + (τ * 3 + c)) (by omega)).trans (by rw [pl_cell _ hτ h3]))
              have d0 : wr.cell? ⟨b, off + m * 31 + 23 + τ * 3, none⟩ = some (.int .i32 ((X m).pl (τ * 3))) := dd 0 (by omega)
              have d1 : wr.cell? ⟨b, off + m * 31 + 23 + τ * 3 + 1, none⟩ = some (.int .i32 ((X m).pl (τ * 3 + 1))) := dd 1 (by omega)
              have d2 : wr.cell? ⟨b, off + m * 31 + 23 + τ * 3 + 2, none⟩ = some (.int .i32 ((X m).pl (τ * 3 + 2))) := dd 2 (by omega)
              clear dd
              by_cases hz : (X m).pl (τ * 3) = 0 ∧ (X m).pl (τ * 3 + 1) = 0 ∧ (X m).pl (τ * 3 + 2) = 0
              · obtain ⟨z1, z2, z3⟩ := hz
                rw [z1] at d0
                rw [z2] at d1
                rw [z3] at d2
                go_wp2
                go_roundg (nn - (k + 1))
                case measure => go_light; omega
                case rel =>
                  go_light
                  have hm : N k = (m : Int) := Hm
                  refine ⟨k + 1, by omega, rfl, by go_num, hB.setCell (p := ⟨w.heap.size, m, none⟩) (Nat.le_refl _) _, (hrow.set m _).congr (fun i hi => ?_), ?_, ?_, ?_⟩
                  · rw [sn_succ, hm]
                    by_cases e : i = m
                    · simp [e]
                    · simp [e, show ¬ ((m : Int) = (i : Int)) by omega]
                  · intro i hi
                    by_cases e : i = k
                    · subst e; omega
                    · exact hP.rng i (by omega)
                  · have hno : ∀ i, i < k → N i ≠ (m : Int) := fun i hi e => by
                      have := (sn_iff N k m).2 ⟨i, hi, e⟩
                      rw [hs] at this
                      cases this
                    intro i j hi hj e
                    by_cases e1 : i = k
                    · by_cases e2 : j = k
                      · omega
                      · subst e1; exact absurd (e.symm.trans hm) (hno j (by omega))
                    · by_cases e2 : j = k
                      · subst e2; exact absurd (e.trans hm) (hno i (by omega))
                      · exact hP.inj i j (by omega) (by omega) e
                  · intro i hi c h3
                    by_cases e : i = k
                    · subst e
                      rw [hm, Int.toNat_natCast]
                      match c, h3 with
                      | 0, _ => exact z1
                      | 1, _ => exact z2
                      | 2, _ => exact z3
                    · exact hP.zero i (by omega) c h3
              · generalize (X m).pl (τ * 3) = p0 at d0 hz
                generalize (X m).pl (τ * 3 + 1) = p1 at d1 hz
                generalize (X m).pl (τ * 3 + 2) = p2 at d2 hz
                go_wp2
                all_goals (first | omega | (go_ret2; exact ⟨hB.setCell (p := ⟨w.heap.size, m, none⟩) (Nat.le_refl _) _, .inl ⟨_, rfl⟩⟩))
          · have g5 : (n : Int) ≤ N k := by omega
            go_wp2
            go_ret2
            exact ⟨hB, .inl ⟨_, rfl⟩⟩
        · go_wp2
          go_ret2
          exact ⟨hB, .inl ⟨_, rfl⟩⟩
      · obtain rfl : nn = k := by omega
        go_wp2
        go_ret2
        exact ⟨hB, .inr ⟨_, τ, rfl, hτ, rfl, hP, Row.of_rowIs hrow (Nat.le_refl _)⟩⟩
  · by_cases h0 : t < 0
    · go_enter Try.func17, Try.ntmps17
      go_wp2
      go_ret2
      exact ⟨Below.refl _ _, .inl ⟨_, rfl⟩⟩
    · have h1 : 1 < t := by omega
      go_enter Try.func17, Try.ntmps17
      go_wp2
      go_ret2
      exact ⟨Below.refl _ _, .inl ⟨_, rfl⟩⟩
end Go.Proofs.Qxb6601797a
