/- The plain law: decimal texts without leading zeros compare as their numbers. No Go here. -/
import Derived.Test.Qxb6601909aAt
namespace Go.Proofs.Qxb6601909a

/-- a text of digits that does not begin with '0' -/
structure Sig (s : ByteArray) : Prop where
  dec : Dec s
  lead : 0 < s.size → dg s 0 ≠ 48

theorem val_ge {s : ByteArray} (h : Sig s) : ∀ {k : Nat}, k + 1 ≤ s.size → 10 ^ k ≤ val s (k + 1)
  | 0, hk => by
    have h1 := h.dec 0 (by omega)
    have h2 := h.lead (by omega)
    simp only [val, Nat.pow_zero]
    omega
  | k + 1, hk => by
    have h1 := val_ge h (k := k) (by omega)
    have h2 : val s (k + 1 + 1) = 10 * val s (k + 1) + (dg s (k + 1) - 48) := rfl
    have h3 : 10 ^ (k + 1) = 10 ^ k * 10 := Nat.pow_succ ..
    omega

theorem val_short {s t : ByteArray} (hs : Sig s) (ht : Sig t) (h : s.size < t.size) : val s s.size < val t t.size := by
  have h1 := val_lt hs.dec (k := s.size) (Nat.le_refl _)
  obtain ⟨m, hm⟩ : ∃ m, t.size = m + 1 := ⟨t.size - 1, by omega⟩
  have h2 := val_ge ht (k := m) (by omega)
  have h3 : 10 ^ s.size ≤ 10 ^ m := Nat.pow_le_pow_right (by omega) (by omega)
  rw [hm]
  omega

theorem val_same {s t : ByteArray} : ∀ {k : Nat}, (∀ j, j < k → dg s j = dg t j) → val s k = val t k
  | 0, _ => rfl
  | k + 1, h => by
    have h1 := val_same (k := k) fun j hj => h j (by omega)
    have h2 := h k (by omega)
    simp only [val, h1, h2]

theorem val_differ {s t : ByteArray} (hs : Dec s) (ht : Dec t) (hz : s.size = t.size) {i : Nat} (hi : i < s.size) (he : ∀ j, j < i → dg s j = dg t j) (hl : dg s i < dg t i) : ∀ {k : Nat}, i < k → k ≤ s.size → val s k < val t k
  | 0, hk, _ => by omega
  | k + 1, hk, hle => by
    have a1 := hs k (by omega)
    have a2 := ht k (by omega)
    simp only [val]
    by_cases e : i = k
    · subst e
      rw [val_same he]
      omega
    · have := val_differ hs ht hz hi he hl (k := k) (by omega) (by omega)
      omega

/-- the first place where two texts of one length differ, or none -/
theorem first_differ (s t : ByteArray) : ∀ k : Nat, (∀ j, j < k → dg s j = dg t j) ∨ ∃ i, i < k ∧ (∀ j, j < i → dg s j = dg t j) ∧ dg s i ≠ dg t i
  | 0 => .inl fun j hj => by omega
  | k + 1 => by
    rcases first_differ s t k with h | ⟨i, h1, h2, h3⟩
    · by_cases e : dg s k = dg t k
      · exact .inl fun j hj => by
          by_cases e' : j = k
          · subst e'; exact e
          · exact h j (by omega)
      · exact .inr ⟨k, by omega, h, e⟩
    · exact .inr ⟨i, by omega, h2, h3⟩

theorem eq_of_dg {s t : ByteArray} (hz : s.size = t.size) (h : ∀ j, j < s.size → dg s j = dg t j) : s = t := by
  have hz' : s.data.size = t.data.size := hz
  have : s.data = t.data := by
    apply Array.ext hz'
    intro i h1 h2
    have h3 := h i h1
    unfold dg at h3
    simp only [Array.getD, dif_pos h1, dif_pos h2] at h3
    exact UInt8.toNat_inj.1 h3
  cases s; cases t; simp_all

/-- the three ways of two such texts -/
theorem trichotomy {s t : ByteArray} (hs : Sig s) (ht : Sig t) :
    (Less s t ∧ val s s.size < val t t.size ∧ s ≠ t) ∨ (¬ Less s t ∧ val s s.size = val t t.size ∧ s = t) ∨ (¬ Less s t ∧ val t t.size < val s s.size ∧ s ≠ t) := by
  rcases Nat.lt_trichotomy s.size t.size with h | h | h
  · exact .inl ⟨.inl h, val_short hs ht h, fun e => by subst e; omega⟩
  · rcases first_differ s t s.size with he | ⟨i, h1, h2, h3⟩
    · have := eq_of_dg h he
      subst this
      exact .inr (.inl ⟨less_none rfl fun _ _ => rfl, rfl, rfl⟩)
    · have hl := less_at h h1 h2 h3
      by_cases g : dg s i < dg t i
      · refine .inl ⟨hl.2 g, ?_, fun e => h3 (by rw [e])⟩
        have := val_differ hs.dec ht.dec h h1 h2 g h1 (Nat.le_refl _)
        rw [← h]
        exact this
      · refine .inr (.inr ⟨fun e => g (hl.1 e), ?_, fun e => h3 (by rw [e])⟩)
        have := val_differ ht.dec hs.dec h.symm (h ▸ h1) (fun j hj => (h2 j hj).symm) (by omega) (k := t.size) (h ▸ h1) (Nat.le_refl _)
        rw [h]
        exact this
  · exact .inr (.inr ⟨fun e => by rcases e with e | e <;> omega, val_short ht hs h, fun e => by subst e; omega⟩)

theorem dg_extract {s : ByteArray} {z i : Nat} (h : z + i < s.size) : dg (s.extract z s.size) i = dg s (z + i) := by
  have h' : z + i < s.data.size := h
  unfold dg
  rw [ByteArray.data_extract]
  simp only [Array.getD]
  have h2 : i < (s.data.extract z s.size).size := by simp; omega
  rw [dif_pos h2, dif_pos h']
  simp

theorem sig_extract {s : ByteArray} {z : Nat} (hd : Dec s) (hz : Zeros s z) : Sig (s.extract z s.size) := by
  have hsz : (s.extract z s.size).size = s.size - z := by simp
  refine ⟨fun i hi => ?_, fun h => ?_⟩
  · rw [dg_extract (by omega)]
    exact hd _ (by omega)
  · rw [dg_extract (by omega)]
    exact hz.stop (by omega)
end Go.Proofs.Qxb6601909a
