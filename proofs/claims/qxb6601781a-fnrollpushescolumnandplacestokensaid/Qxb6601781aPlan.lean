/- roll's effect in plain words, for both its branches. -/
import Derived.Test.Qxb6601781aState
namespace Go.Proofs.Qxb6601781a
open Go.RowKit

/-- the law's own premise where the call rolls before a held token -/
def Fits (n : Nat) (fl ind col hd tk num : Int) : Prop := fl ≤ 0 → ind < col → 0 ≤ num → 0 ≤ hd ∧ 0 ≤ tk ∧ tk ≤ num ∧ num - tk ≤ n - hd

/-- where the token has been put, and what stands at place j -/
structure Plan (n ni m mi : Nat) (fl ind col hd tk num kd line ind' pos : Int) (I I' K K' L L' : Nat → Int) (S S' : Nat → ByteArray) : Prop where
  hm : m ≤ 65537
  hmi : mi ≤ 65537
  yes : fl ≤ 0 → ind < col → m = n + 1 ∧ mi = ni + 1 ∧ ind' = col ∧ (num < 0 → pos = n) ∧ (0 ≤ num → pos = hd + (num - tk)) ∧ I' = fun i => if i < ni then I i else ind
  no : ¬ (fl ≤ 0 ∧ ind < col) → m = n ∧ mi = ni ∧ ind' = ind ∧ pos = -1 ∧ I' = I
  lo : -1 ≤ pos
  hi : pos ≤ n
  here : ∀ j : Nat, j < m → (j : Int) = pos → K' j = kd ∧ L' j = line ∧ S' j = ByteArray.empty
  before : ∀ j : Nat, j < m → ((j : Int) < pos ∨ pos < 0) → j < n ∧ K' j = K j ∧ L' j = L j ∧ S' j = S j
  after : ∀ j : Nat, j < m → 0 ≤ pos → pos < (j : Int) → 1 ≤ j ∧ j - 1 < n ∧ K' j = K (j - 1) ∧ L' j = L (j - 1) ∧ S' j = S (j - 1)

theorem ins_at {α : Type} (f : Nat → α) (p : Nat) (x : α) : ins f p x p = x := by simp [ins]
theorem ins_lt {α : Type} (f : Nat → α) {p j : Nat} (x : α) (h : j < p) : ins f p x j = f j := by simp [ins, h]
theorem ins_gt {α : Type} (f : Nat → α) {p j : Nat} (x : α) (h : p < j) : ins f p x j = f (j - 1) := by simp [ins, show ¬ j < p by omega, show ¬ j = p by omega]

theorem plan_of_pos {n ni : Nat} {fl ind col hd tk num kd line pos : Int} {I K L : Nat → Int} {S : Nat → ByteArray} (hn : n ≤ 65536) (hni : ni ≤ 65536) (p : Nat) (hp : p ≤ n) (hpp : pos = p)
    (hy : fl ≤ 0 ∧ ind < col) (h1 : num < 0 → pos = n) (h2 : 0 ≤ num → pos = hd + (num - tk)) :
    Plan n ni (n + 1) (ni + 1) fl ind col hd tk num kd line col pos I (fun i => if i < ni then I i else ind) K (ins K p kd) L (ins L p line) S (ins S p ByteArray.empty) := by
  subst hpp
  refine ⟨by omega, by omega, fun _ _ => ⟨rfl, rfl, rfl, h1, h2, rfl⟩, fun h => absurd hy h, by omega, by omega, fun j _ e => ?_, fun j hj e => ?_, fun j hj _ e => ?_⟩
  · obtain rfl : j = p := by omega
    exact ⟨ins_at _ _ _, ins_at _ _ _, ins_at _ _ _⟩
  · have : j < p := by omega
    exact ⟨by omega, ins_lt _ _ this, ins_lt _ _ this, ins_lt _ _ this⟩
  · have : p < j := by omega
    exact ⟨by omega, by omega, ins_gt _ _ this, ins_gt _ _ this, ins_gt _ _ this⟩

theorem roll_plan (n ni : Nat) (fl ind col hd tk num kd line : Int) (I K L : Nat → Int) (S : Nat → ByteArray) (hn : n ≤ 65536) (hni : ni ≤ 65536) (hf : Fits n fl ind col hd tk num)
    (r1 : hd < 9223372036854775808) (r3 : num < 9223372036854775808) :
    ∃ (m mi : Nat) (ind' pos : Int) (I' K' L' : Nat → Int) (S' : Nat → ByteArray), Plan n ni m mi fl ind col hd tk num kd line ind' pos I I' K K' L L' S S' ∧
      ∀ (w : World) (R b lo : Nat) (ai : Option Addr), lo ≤ w.heap.size →
        w.heap[R]? = some (.cells (scCells (.slice (some ⟨b, 0, none⟩) n n) (.slice ai ni ni) hd tk ind fl) 54 (0, 0)) →
        Toks w b n n K L S → Row w lo ai ni (fun i => .int .i64 (I i)) → R ≠ b →
        Calls Try.prog 17 #[.pointer (some ⟨R, 0, none⟩), .int .i64 col, .int .i64 num, .int .u8 kd, .int .i64 line] w fun e w' => RetRoll w lo R m mi hd tk ind' fl I' K' L' S' e w' := by
  by_cases hy : fl ≤ 0 ∧ ind < col
  · by_cases hnum : num < 0
    · exact ⟨_, _, _, _, _, _, _, _, plan_of_pos (pos := (n : Int)) hn hni n (Nat.le_refl _) rfl hy (fun _ => rfl) (fun h => by omega), fun w R b lo ai hlo hsc hT hI hRb =>
        zzroll_of R col num kd line w (roll_yes R b n ni n lo ai I hd tk ind fl col num kd line K L S w hn hni hlo hsc hT hI hRb hy.1 hy.2 (.inl ⟨hnum, rfl⟩))⟩
    · obtain ⟨f1, f2, f3, f4⟩ := hf hy.1 hy.2 (by omega)
      obtain ⟨p, hp⟩ : ∃ p : Nat, (p : Int) = hd + (num - tk) := ⟨(hd + (num - tk)).toNat, by omega⟩
      exact ⟨_, _, _, _, _, _, _, _, plan_of_pos (pos := (p : Int)) hn hni p (by omega) rfl hy (fun h => by omega) (fun _ => hp), fun w R b lo ai hlo hsc hT hI hRb =>
        zzroll_of R col num kd line w (roll_yes R b n ni p lo ai I hd tk ind fl col num kd line K L S w hn hni hlo hsc hT hI hRb hy.1 hy.2 (.inr ⟨by omega, by omega, by unfold wrap64; omega⟩))⟩
  · refine ⟨n, ni, ind, -1, I, K, L, S, ⟨by omega, by omega, fun h1 h2 => absurd ⟨h1, h2⟩ hy, fun _ => ⟨rfl, rfl, rfl, rfl, rfl⟩, by omega, by omega, fun j _ e => by omega, fun j hj _ => ⟨hj, rfl, rfl, rfl⟩, fun j hj e => by omega⟩, fun w R b lo ai hlo hsc hT hI hRb => ?_⟩
    exact zzroll_of R col num kd line w (roll_no R n ni lo I hd tk ind fl col num kd line K L S w ⟨b, n, ai, ni, hsc, Nat.le_refl _, hT, hI⟩ (by omega))
end Go.Proofs.Qxb6601781a
