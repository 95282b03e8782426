/- The plain law of FnReachSidesSwapUnderReversal: no Go in sight. -/
import Derived.Test.Qxb6601698aReachBase
namespace Go.Proofs.Qxb6601698a
open Go.Maps

theorem bump_swap {k : Nat} {f g : Nat → Int} (h : ∀ c, c < k → f c = g (k - 1 - c)) {x : Nat} (hx : x < k) : ∀ c, c < k → bump f (k - 1 - x) c = bump g x (k - 1 - c) := by
  intro c hc
  unfold bump
  by_cases e : c = k - 1 - x
  · have e2 : k - 1 - c = x := by omega
    rw [if_pos e, if_pos e2, h _ (by omega)]
    have e3 : k - 1 - (k - 1 - x) = x := by omega
    rw [e3]
  · have e2 : ¬ k - 1 - c = x := by omega
    rw [if_neg e, if_neg e2, h c hc]
theorem bumps_swap {k : Nat} : ∀ (ys : List Int) {f g : Nat → Int}, (∀ c, c < k → f c = g (k - 1 - c)) → (∀ y ∈ ys, 0 ≤ y ∧ y < k) → ∀ c, c < k → bumps f (ys.map (fun y => (k : Int) - 1 - y)) c = bumps g ys (k - 1 - c)
  | [], f, g, h, _ => fun c hc => h c hc
  | y :: ys, f, g, h, hy => fun c hc => by
    have hy0 := hy y (by simp)
    obtain ⟨m, hm⟩ := Int.eq_ofNat_of_zero_le hy0.1
    have hmk : m < k := by omega
    show bumps (bump f ((k : Int) - 1 - y).toNat) (ys.map (fun y => (k : Int) - 1 - y)) c = bumps (bump g y.toNat) ys (k - 1 - c)
    have e1 : ((k : Int) - 1 - y).toNat = k - 1 - m := by omega
    have e2 : y.toNat = m := by omega
    rw [e1, e2]
    exact bumps_swap ys (bump_swap h hmk) (fun z hz => hy z (by simp [hz])) c hc
theorem proc_swap {k : Nat} {f g : Nat → Int} (h : ∀ c, c < k → f c = g (k - 1 - c)) {x : Nat} (hx : x < k) {ys : List Int} (hy : ∀ y ∈ ys, 0 ≤ y ∧ y < k) :
    ∀ c, c < k → proc f (k - 1 - x) (ys.map (fun y => (k : Int) - 1 - y)) c = proc g x ys (k - 1 - c) := by
  intro c hc
  unfold proc
  have e1 : f (k - 1 - x) = g x := by
    rw [h _ (by omega)]
    have e3 : k - 1 - (k - 1 - x) = x := by omega
    rw [e3]
  rw [e1]
  split
  · exact bumps_swap ys h hy c hc
  · exact h c hc
theorem dn_up_swap {k : Nat} {f g : Nat → Int} {nx nx' : Nat → List Int} (h : ∀ c, c < k → f c = g (k - 1 - c)) (hn : ∀ c, c < k → nx' (k - 1 - c) = (nx c).map (fun y => (k : Int) - 1 - y)) (hy : ∀ c, c < k → ∀ y ∈ nx c, 0 ≤ y ∧ y < k) :
    ∀ t, t ≤ k → ∀ c, c < k → dnAt k nx' f t c = upAt nx g t (k - 1 - c)
  | 0, _ => h
  | t + 1, ht => fun c hc => by
    have ih := dn_up_swap h hn hy t (by omega)
    rw [dnAt, upAt, hn t (by omega)]
    exact proc_swap ih (by omega) (hy t (by omega)) c hc
theorem up_dn_swap {k : Nat} {f g : Nat → Int} {nx nx' : Nat → List Int} (h : ∀ c, c < k → f c = g (k - 1 - c)) (hn : ∀ c, c < k → nx' (k - 1 - c) = (nx c).map (fun y => (k : Int) - 1 - y)) (hy : ∀ c, c < k → ∀ y ∈ nx c, 0 ≤ y ∧ y < k) :
    ∀ t, t ≤ k → ∀ c, c < k → upAt nx' f t c = dnAt k nx g t (k - 1 - c)
  | 0, _ => h
  | t + 1, ht => fun c hc => by
    have ih := up_dn_swap h hn hy t (by omega)
    have e : k - 1 - (k - 1 - t) = t := by omega
    have h1 := hn (k - 1 - t) (by omega)
    rw [e] at h1
    rw [dnAt, upAt, h1]
    have h2 := proc_swap (x := k - 1 - t) (ys := nx (k - 1 - t)) ih (by omega) (hy _ (by omega)) c hc
    rw [e] at h2
    exact h2
theorem nextRow_swap {k n : Nat} {Cm : Nat → Int} (hc : ∀ v, v < n → 0 ≤ Cm v ∧ Cm v < k) {c : Nat} (hck : c < k) {Z : Nat → Int} : ∀ t, (∀ j, j < t → 0 ≤ Z j ∧ Z j < n) →
    nextRow (fun v => (k : Int) - 1 - Cm v) ((k - 1 - c : Nat) : Int) Z t = (nextRow Cm (c : Int) Z t).map (fun y => (k : Int) - 1 - y)
  | 0, _ => rfl
  | t + 1, hz => by
    have h1 := hz t (by omega)
    have h2 := hc (Z t).toNat (by omega)
    rw [nextRow, nextRow, List.map_append, nextRow_swap hc hck t (fun j hj => hz j (by omega))]
    by_cases e : Cm (Z t).toNat = c
    · rw [if_pos e, if_pos (by omega)]; rfl
    · rw [if_neg e, if_neg (by omega)]; rfl
theorem nextAll_swap {k n : Nat} {Cm : Nat → Int} (hc : ∀ v, v < n → 0 ≤ Cm v ∧ Cm v < k) {c : Nat} (hck : c < k) {Ls : Nat → Nat} {Zs : Nat → Nat → Int} (hs : ∀ v, v < n → ∀ i, i < Ls v → 0 ≤ Zs v i ∧ Zs v i < n) {Zc : Nat → Int} :
    ∀ j, (∀ i, i < j → 0 ≤ Zc i ∧ Zc i < n) → nextAll (fun v => (k : Int) - 1 - Cm v) (k - 1 - c) Ls Zs Zc j = (nextAll Cm c Ls Zs Zc j).map (fun y => (k : Int) - 1 - y)
  | 0, _ => rfl
  | j + 1, hm => by
    have h1 := hm j (by omega)
    rw [nextAll, nextAll, List.map_append, nextAll_swap hc hck hs j (fun i hi => hm i (by omega)), nextRow_swap hc hck _ (hs _ (by omega))]
theorem gcnt_swap {k n : Nat} {Cm : Nat → Int} (hc : ∀ v, v < n → 0 ≤ Cm v ∧ Cm v < k) {D : DataW Unit} (hD : NumOk D n) (G : Nat → ByteArray) : ∀ i c, c < k →
    gcnt D (fun v => (k : Int) - 1 - Cm v) G i c = gcnt D Cm G i (k - 1 - c)
  | 0, _, _ => rfl
  | i + 1, c, hck => by
    rw [gcnt, gcnt]
    by_cases e : Maps.has D (kl (G i)) = true
    · obtain ⟨v, hv, hat⟩ := hD.2 _ e
      have e1 : numIx D (G i) = v := by simp [numIx, hat, toInt]
      have h2 := hc v hv
      obtain ⟨m, hm⟩ := Int.eq_ofNat_of_zero_le h2.1
      rw [if_pos e, if_pos e, e1]
      have e2 : ((k : Int) - 1 - Cm v).toNat = k - 1 - m := by omega
      have e3 : (Cm v).toNat = m := by omega
      simp only [e2, e3]
      exact bump_swap (gcnt_swap hc hD G i) (by omega) c hck
    · rw [if_neg e, if_neg e]
      exact gcnt_swap hc hD G i c hck
/-- THE LAW: over the turned links the sides change places. -/
theorem sides_swap {n k gn : Nat} {Cm : Nat → Int} {Lm Ls : Nat → Nat} {Zm Zs : Nat → Nat → Int} {D : DataW Unit} {G : Nat → ByteArray} (hc : ∀ v, v < n → 0 ≤ Cm v ∧ Cm v < k) (hm : ∀ c, c < k → ∀ j, j < Lm c → 0 ≤ Zm c j ∧ Zm c j < n)
    (hs : ∀ v, v < n → ∀ j, j < Ls v → 0 ≤ Zs v j ∧ Zs v j < n) (hD : NumOk D n) {c : Nat} (hck : c < k) :
    dnAt k (fun c => nextAll (fun v => (k : Int) - 1 - Cm v) c Ls Zs (Zm (k - 1 - c)) (Lm (k - 1 - c))) (gcnt D (fun v => (k : Int) - 1 - Cm v) G gn) k c = upAt (fun c => nextAll Cm c Ls Zs (Zm c) (Lm c)) (gcnt D Cm G gn) k (k - 1 - c) ∧
    upAt (fun c => nextAll (fun v => (k : Int) - 1 - Cm v) c Ls Zs (Zm (k - 1 - c)) (Lm (k - 1 - c))) (gcnt D (fun v => (k : Int) - 1 - Cm v) G gn) k c = dnAt k (fun c => nextAll Cm c Ls Zs (Zm c) (Lm c)) (gcnt D Cm G gn) k (k - 1 - c) := by
  have h1 : ∀ c, c < k → nextAll (fun v => (k : Int) - 1 - Cm v) (k - 1 - c) Ls Zs (Zm (k - 1 - (k - 1 - c))) (Lm (k - 1 - (k - 1 - c))) = (nextAll Cm c Ls Zs (Zm c) (Lm c)).map (fun y => (k : Int) - 1 - y) := fun c hc1 => by
    have e : k - 1 - (k - 1 - c) = c := by omega
    rw [e]
    exact nextAll_swap hc hc1 hs _ (hm c hc1)
  have h2 : ∀ c, c < k → ∀ y ∈ nextAll Cm c Ls Zs (Zm c) (Lm c), 0 ≤ y ∧ y < k := fun c hc1 => nextAll_mem hc (hm c hc1) hs
  exact ⟨dn_up_swap (nx := fun c => nextAll Cm c Ls Zs (Zm c) (Lm c)) (gcnt_swap hc hD G gn) h1 h2 k (Nat.le_refl _) c hck, up_dn_swap (nx := fun c => nextAll Cm c Ls Zs (Zm c) (Lm c)) (gcnt_swap hc hD G gn) h1 h2 k (Nat.le_refl _) c hck⟩
end Go.Proofs.Qxb6601698a
