/- The plain law of FnReachCountsMatchComponentModel: no Go in sight. -/
import Derived.Test.Qxb6601698aReachBase
namespace Go.Proofs.Qxb6601698a
open Go.RowKit

/-- how often d stands in a list -/
def cntN (d : Nat) (xs : List Int) : Nat := (xs.map Int.toNat).count d
theorem cntN_nil (d : Nat) : cntN d [] = 0 := rfl
theorem cntN_cons (d : Nat) (x : Int) (xs : List Int) : cntN d (x :: xs) = cntN d xs + if x.toNat = d then 1 else 0 := by
  simp [cntN, List.count_cons]
theorem cntN_append (d : Nat) (xs ys : List Int) : cntN d (xs ++ ys) = cntN d xs + cntN d ys := by simp [cntN, List.count_append]
theorem cntN_le (d : Nat) (xs : List Int) : cntN d xs ≤ xs.length := by
  have := List.count_le_length (a := d) (l := xs.map Int.toNat)
  simpa [cntN] using this
theorem cntN_pos {d : Nat} {xs : List Int} (h : 0 < cntN d xs) : ∃ y ∈ xs, y.toNat = d := by
  have := List.count_pos_iff.1 h
  simpa using this
theorem cntN_pos_of {d : Nat} {xs : List Int} {y : Int} (hy : y ∈ xs) (h : y.toNat = d) : 0 < cntN d xs :=
  List.count_pos_iff.2 (List.mem_map.2 ⟨y, hy, h⟩)

theorem wrap64_small {x : Int} (h0 : 0 ≤ x) (h1 : x ≤ 4611686018427387904) : wrap64 x = x := by
  unfold wrap64; omega
theorem bumps_eq : ∀ (xs : List Int) (f : Nat → Int), (∀ j, 0 ≤ f j ∧ f j + xs.length ≤ 4611686018427387904) → ∀ d, bumps f xs d = f d + cntN d xs
  | [], f, _, d => by simp [bumps, cntN_nil]
  | x :: xs, f, h, d => by
    have hb : ∀ j, 0 ≤ bump f x.toNat j ∧ bump f x.toNat j + xs.length ≤ 4611686018427387904 := fun j => by
      have h1 := h j
      have h2 := h x.toNat
      simp only [List.length_cons] at h1 h2
      unfold bump
      split
      · rw [wrap64_small (by omega) (by omega)]; omega
      · omega
    have ih := bumps_eq xs (bump f x.toNat) hb d
    show bumps (bump f x.toNat) xs d = _
    rw [ih, cntN_cons]
    have h2 := h x.toNat
    simp only [List.length_cons] at h2
    unfold bump
    by_cases e : d = x.toNat
    · rw [if_pos e, if_pos e.symm, wrap64_small (by omega) (by omega), e]; omega
    · rw [if_neg e, if_neg (fun h => e h.symm)]; omega

/-! ### a sweep in an order -/
def sweep (nx : Nat → List Int) : List Nat → (Nat → Int) → Nat → Int
  | [], f => f
  | c :: r, f => sweep nx r (proc f c (nx c))
theorem sweep_snoc (nx : Nat → List Int) : ∀ (l : List Nat) (c : Nat) (f : Nat → Int), sweep nx (l ++ [c]) f = proc (sweep nx l f) c (nx c)
  | [], _, _ => rfl
  | _ :: l, c, _ => sweep_snoc nx l c _
theorem dnAt_sweep (k : Nat) (nx : Nat → List Int) (f : Nat → Int) : ∀ t, dnAt k nx f t = sweep nx ((List.range t).map (fun s => k - 1 - s)) f
  | 0 => rfl
  | t + 1 => by rw [dnAt, dnAt_sweep k nx f t, List.range_succ, List.map_append, List.map_cons, List.map_nil, sweep_snoc]
theorem upAt_sweep (nx : Nat → List Int) (f : Nat → Int) : ∀ t, upAt nx f t = sweep nx (List.range t) f
  | 0 => rfl
  | t + 1 => by rw [upAt, upAt_sweep nx f t, List.range_succ, sweep_snoc]

def sumOf (l : List Nat) (φ : Nat → Nat) : Nat := (l.map φ).sum
theorem sumOf_cons (c : Nat) (l : List Nat) (φ : Nat → Nat) : sumOf (c :: l) φ = φ c + sumOf l φ := by simp [sumOf]
theorem sumOf_zero {l : List Nat} {φ : Nat → Nat} (h : ∀ c ∈ l, φ c = 0) : sumOf l φ = 0 := by
  induction l with
  | nil => rfl
  | cons c l ih => rw [sumOf_cons, h c (by simp), ih (fun d hd => h d (by simp [hd]))]
theorem sumOf_congr {l : List Nat} {φ ψ : Nat → Nat} (h : ∀ c ∈ l, φ c = ψ c) : sumOf l φ = sumOf l ψ := by
  unfold sumOf; rw [List.map_congr_left h]
theorem sumOf_perm {l l' : List Nat} (h : l.Perm l') (φ : Nat → Nat) : sumOf l φ = sumOf l' φ := (h.map φ).sum_nat
theorem sumOf_append (l l' : List Nat) (φ : Nat → Nat) : sumOf (l ++ l') φ = sumOf l φ + sumOf l' φ := by simp [sumOf]
theorem sumOf_pos {l : List Nat} {φ : Nat → Nat} (h : 0 < sumOf l φ) : ∃ c ∈ l, 0 < φ c := by
  induction l with
  | nil => simp [sumOf] at h
  | cons c l ih =>
    rw [sumOf_cons] at h
    by_cases e : 0 < φ c
    · exact ⟨c, by simp, e⟩
    · obtain ⟨d, hd, h2⟩ := ih (by omega)
      exact ⟨d, by simp [hd], h2⟩
theorem sumOf_ge {l : List Nat} {φ : Nat → Nat} {c : Nat} (h : c ∈ l) : φ c ≤ sumOf l φ := by
  induction l with
  | nil => simp at h
  | cons d l ih =>
    rw [sumOf_cons]
    rcases List.mem_cons.1 h with rfl | h
    · omega
    · have := ih h; omega

/-- THE SWEEP's EQUATION: swept in an order in which nothing later hands on to what came earlier. -/
theorem sweep_eq (nx : Nat → List Int) (B : Nat) : ∀ (l : List Nat) (f : Nat → Int), (∀ c ∈ l, (nx c).length ≤ B) → (∀ j, 0 ≤ f j ∧ f j + (l.length * B : Nat) ≤ 4611686018427387904) →
    (∀ c ∈ l, cntN c (nx c) = 0) → l.Pairwise (fun c c' => cntN c (nx c') = 0) →
    ∀ d, sweep nx l f d = f d + (sumOf l (fun c => if 0 < sweep nx l f c then cntN d (nx c) else 0) : Nat)
  | [], f, _, _, _, _, d => by simp [sweep, sumOf]
  | c :: l, f, hB, hf, hi, hp, d => by
    obtain ⟨hp1, hp2⟩ := List.pairwise_cons.1 hp
    have hBc := hB c (by simp)
    have hbe : ∀ d, proc f c (nx c) d = f d + (if 0 < f c then cntN d (nx c) else 0 : Nat) := fun d => by
      unfold proc
      split
      · exact bumps_eq (nx c) f (fun j => by have := hf j; simp only [List.length_cons, Nat.add_mul] at this; omega) d
      · simp
    have hf' : ∀ j, 0 ≤ proc f c (nx c) j ∧ proc f c (nx c) j + (l.length * B : Nat) ≤ 4611686018427387904 := fun j => by
      have h1 := hf j
      have h2 := hbe j
      have h3 := cntN_le j (nx c)
      simp only [List.length_cons, Nat.add_mul] at h1
      split at h2 <;> omega
    have ih := sweep_eq nx B l (proc f c (nx c)) (fun x hx => hB x (by simp [hx])) hf' (fun x hx => hi x (by simp [hx])) hp2
    have hFc : sweep nx (c :: l) f c = f c := by
      show sweep nx l (proc f c (nx c)) c = f c
      rw [ih c, hbe c, hi c (by simp), sumOf_zero]
      · simp
      · intro x hx
        rw [hp1 x hx]
        simp
    rw [sumOf_cons]
    show sweep nx l (proc f c (nx c)) d = _
    rw [hFc, ih d, hbe d]
    show _ = f d + (((if 0 < f c then cntN d (nx c) else 0) + sumOf l (fun c_1 => if 0 < sweep nx l (proc f c (nx c)) c_1 then cntN d (nx c_1) else 0) : Nat) : Int)
    omega

/-! ### the model's counts -/
/-- every step out of the first m resources whose component is on -/
def expAt (Cm : Nat → Int) (Ls : Nat → Nat) (Zs : Nat → Nat → Int) (on : Nat → Bool) (g : Nat → Int) : Nat → Nat → Int
  | 0 => g
  | m + 1 => if on (Cm m).toNat then bumps (expAt Cm Ls Zs on g m) (nextRow Cm (Cm m) (Zs m) (Ls m)) else expAt Cm Ls Zs on g m
theorem exp_eq {Cm : Nat → Int} {Ls : Nat → Nat} {Zs : Nat → Nat → Int} {on : Nat → Bool} {g : Nat → Int} {B : Nat} : ∀ n, (∀ m, m < n → Ls m ≤ B) → (∀ j, 0 ≤ g j ∧ g j + (n * B : Nat) ≤ 4611686018427387904) →
    ∀ d, expAt Cm Ls Zs on g n d = g d + (sumOf (List.range n) (fun m => if on (Cm m).toNat then cntN d (nextRow Cm (Cm m) (Zs m) (Ls m)) else 0) : Nat) ∧
      sumOf (List.range n) (fun m => if on (Cm m).toNat then cntN d (nextRow Cm (Cm m) (Zs m) (Ls m)) else 0) ≤ n * B
  | 0, _, _, d => by simp [expAt, sumOf]
  | n + 1, hL, hg, d => by
    have hg' : ∀ j, 0 ≤ g j ∧ g j + (n * B : Nat) ≤ 4611686018427387904 := fun j => by have := hg j; simp only [Nat.add_mul] at this; omega
    have ih := exp_eq (Cm := Cm) (Ls := Ls) (Zs := Zs) (on := on) n (fun m hm => hL m (by omega)) hg'
    have hb : ∀ j, 0 ≤ expAt Cm Ls Zs on g n j ∧ expAt Cm Ls Zs on g n j + (nextRow Cm (Cm n) (Zs n) (Ls n)).length ≤ 4611686018427387904 := fun j => by
      have h1 := hg j
      obtain ⟨h2, h3⟩ := ih j
      have h4 := nextRow_len Cm (Cm n) (Zs n) (Ls n)
      have h5 := hL n (by omega)
      simp only [Nat.add_mul] at h1
      omega
    have h4 := nextRow_len Cm (Cm n) (Zs n) (Ls n)
    have h5 := hL n (by omega)
    have h6 := cntN_le d (nextRow Cm (Cm n) (Zs n) (Ls n))
    obtain ⟨h2, h3⟩ := ih d
    rw [List.range_succ, sumOf_append, sumOf_cons, expAt, Nat.add_mul]
    by_cases e : on (Cm n).toNat = true
    · rw [if_pos e, bumps_eq _ _ hb d, h2]
      simp only [e, if_true, sumOf, List.map_nil, List.sum_nil]
      constructor
      · omega
      · simp only [sumOf] at h3; omega
    · rw [if_neg e, h2]
      simp only [e, sumOf, List.map_nil, List.sum_nil]
      constructor
      · simp
      · simp only [sumOf] at h3; simp; omega

/-- the resources, component by component -/
def places (k : Nat) (Lm : Nat → Nat) (Zm : Nat → Nat → Int) : List Nat := (List.range k).flatMap (fun c => (List.range (Lm c)).map (fun j => (Zm c j).toNat))
theorem places_perm {n k : Nat} {Lm : Nat → Nat} {Zm : Nat → Nat → Int} {Cm : Nat → Int} (hm : ∀ c, c < k → ∀ j, j < Lm c → 0 ≤ Zm c j ∧ Zm c j < n) (onto : ∀ v, v < n → ∃ c j, c < k ∧ j < Lm c ∧ Zm c j = v ∧ Cm v = c)
    (inj : ∀ c j c' j', c < k → j < Lm c → c' < k → j' < Lm c' → Zm c j = Zm c' j' → c = c' ∧ j = j') : (places k Lm Zm).Perm (List.range n) := by
  refine (List.perm_ext_iff_of_nodup ?_ List.nodup_range).2 fun v => ?_
  · refine List.pairwise_flatMap.2 ⟨fun c hc => ?_, ?_⟩
    · have hck := List.mem_range.1 hc
      refine List.pairwise_map.2 (List.Pairwise.imp_of_mem ?_ List.nodup_range)
      intro i j hi hj hne e
      have h1 := hm c hck i (List.mem_range.1 hi)
      have h2 := hm c hck j (List.mem_range.1 hj)
      exact hne (inj c i c j hck (List.mem_range.1 hi) hck (List.mem_range.1 hj) (by omega)).2
    · refine List.Pairwise.imp_of_mem ?_ List.nodup_range
      intro c c' hc hc' hne x hx y hy e
      obtain ⟨i, hi, rfl⟩ := List.mem_map.1 hx
      obtain ⟨j, hj, hy2⟩ := List.mem_map.1 hy
      have hck := List.mem_range.1 hc
      have hck' := List.mem_range.1 hc'
      have h1 := hm c hck i (List.mem_range.1 hi)
      have h2 := hm c' hck' j (List.mem_range.1 hj)
      exact hne (inj c i c' j hck (List.mem_range.1 hi) hck' (List.mem_range.1 hj) (by omega)).1
  · rw [List.mem_range]
    constructor
    · intro h
      obtain ⟨c, hc, hx⟩ := List.mem_flatMap.1 h
      obtain ⟨j, hj, rfl⟩ := List.mem_map.1 hx
      have := hm c (List.mem_range.1 hc) j (List.mem_range.1 hj)
      omega
    · intro h
      obtain ⟨c, j, hc, hj, e, _⟩ := onto v h
      exact List.mem_flatMap.2 ⟨c, List.mem_range.2 hc, List.mem_map.2 ⟨j, List.mem_range.2 hj, by omega⟩⟩
theorem sumOf_map (l : List Nat) (h : Nat → Nat) (φ : Nat → Nat) : sumOf (l.map h) φ = sumOf l (fun x => φ (h x)) := by simp [sumOf, Function.comp_def]
theorem sumOf_flatMap (l : List Nat) (h : Nat → List Nat) (φ : Nat → Nat) : sumOf (l.flatMap h) φ = sumOf l (fun x => sumOf (h x) φ) := by
  induction l with
  | nil => rfl
  | cons c l ih => rw [List.flatMap_cons, sumOf_append, sumOf_cons, ih]
theorem cnt_nextAll (Cm : Nat → Int) (c : Nat) (Ls : Nat → Nat) (Zs : Nat → Nat → Int) (Zc : Nat → Int) (d : Nat) : ∀ j, cntN d (nextAll Cm c Ls Zs Zc j) = sumOf (List.range j) (fun i => cntN d (nextRow Cm c (Zs (Zc i).toNat) (Ls (Zc i).toNat)))
  | 0 => rfl
  | j + 1 => by rw [nextAll, cntN_append, cnt_nextAll Cm c Ls Zs Zc d j, List.range_succ, sumOf_append, sumOf_cons]; simp [sumOf]
theorem nextRow_form {Cm : Nat → Int} {c : Int} {Z : Nat → Int} : ∀ t, ∀ y ∈ nextRow Cm c Z t, y ≠ c ∧ ∃ i, i < t ∧ y = Cm (Z i).toNat
  | 0, y, h => by simp [nextRow] at h
  | t + 1, y, h => by
    simp only [nextRow, List.mem_append] at h
    rcases h with h | h
    · obtain ⟨h1, i, hi, h2⟩ := nextRow_form t y h
      exact ⟨h1, i, by omega, h2⟩
    · split at h
      · simp at h
      · rename_i hne
        simp only [List.mem_singleton] at h
        exact ⟨by rw [h]; exact hne, t, by omega, h⟩
theorem nextAll_form {Cm : Nat → Int} {c : Nat} {Ls : Nat → Nat} {Zs : Nat → Nat → Int} {Zc : Nat → Int} : ∀ j, ∀ y ∈ nextAll Cm c Ls Zs Zc j, y ≠ c ∧ ∃ i t, i < j ∧ t < Ls (Zc i).toNat ∧ y = Cm (Zs (Zc i).toNat t).toNat
  | 0, y, h => by simp [nextAll] at h
  | j + 1, y, h => by
    simp only [nextAll, List.mem_append] at h
    rcases h with h | h
    · obtain ⟨h1, i, t, hi, h2⟩ := nextAll_form j y h
      exact ⟨h1, i, t, by omega, h2⟩
    · obtain ⟨h1, t, ht, h2⟩ := nextRow_form _ y h
      exact ⟨h1, j, t, by omega, ht, h2⟩
/-- what the search finds: closed under the steps, and no more than is reached -/
structure OnOk (k : Nat) (g : Nat → Int) (nx : Nat → List Int) (on : Nat → Bool) : Prop where
  start : ∀ c, c < k → 0 < g c → on c = true
  step : ∀ c, c < k → on c = true → ∀ y ∈ nx c, on y.toNat = true
  least : ∀ P : Nat → Prop, (∀ c, c < k → 0 < g c → P c) → (∀ c, c < k → P c → ∀ y ∈ nx c, P y.toNat) → ∀ c, c < k → on c = true → P c

theorem counts_match {n k B : Nat} {Cm : Nat → Int} {Ls Lm : Nat → Nat} {Zs Zm : Nat → Nat → Int} {g : Nat → Int} {on : Nat → Bool} {ord : List Nat} (hc : ∀ v, v < n → 0 ≤ Cm v ∧ Cm v < k)
    (hm : ∀ c, c < k → ∀ j, j < Lm c → 0 ≤ Zm c j ∧ Zm c j < n ∧ Cm (Zm c j).toNat = c) (onto : ∀ v, v < n → ∃ c j, c < k ∧ j < Lm c ∧ Zm c j = v ∧ Cm v = c)
    (inj : ∀ c j c' j', c < k → j < Lm c → c' < k → j' < Lm c' → Zm c j = Zm c' j' → c = c' ∧ j = j') (hs : ∀ v, v < n → ∀ j, j < Ls v → 0 ≤ Zs v j ∧ Zs v j < n)
    (hn : n ≤ 65536) (hk : k ≤ 65536) (hLs : ∀ v, v < n → Ls v ≤ 1048576) (hLm : ∀ c, c < k → Lm c ≤ 1048576) (hB : B = 1099511627776) (hg : ∀ j, 0 ≤ g j ∧ g j ≤ 65536)
    (hperm : ord.Perm (List.range k)) (htop : ord.Pairwise (fun c c' => cntN c (nextAll Cm c' Ls Zs (Zm c') (Lm c')) = 0))
    (hon : OnOk k g (fun c => nextAll Cm c Ls Zs (Zm c) (Lm c)) on) (d : Nat) :
    sweep (fun c => nextAll Cm c Ls Zs (Zm c) (Lm c)) ord g d = expAt Cm Ls Zs on g n d := by
  have hmem : ∀ c, c ∈ ord ↔ c < k := fun c => by rw [hperm.mem_iff, List.mem_range]
  have hlen : ord.length = k := by rw [hperm.length_eq]; simp
  have hnl : ∀ c, c < k → (nextAll Cm c Ls Zs (Zm c) (Lm c)).length ≤ B := fun c hck => by
    have h1 := nextAll_len Cm c Ls Zs (Zm c) 1048576 (Lm c) (fun i hi => hLs _ (by have := hm c hck i hi; omega))
    have h2 : Lm c * 1048576 ≤ 1048576 * 1048576 := Nat.mul_le_mul_right _ (hLm c hck)
    omega
  have hirr : ∀ c, cntN c (nextAll Cm c Ls Zs (Zm c) (Lm c)) = 0 ∨ ¬ c < k := fun c => by
    by_cases hck : c < k
    · left
      rcases Nat.eq_zero_or_pos (cntN c (nextAll Cm c Ls Zs (Zm c) (Lm c))) with h | h
      · exact h
      · obtain ⟨y, hy, e⟩ := cntN_pos h
        obtain ⟨h1, _⟩ := nextAll_form _ y hy
        have h2 := nextAll_mem hc (fun i hi => ⟨(hm c hck i hi).1, (hm c hck i hi).2.1⟩) hs y hy
        omega
    · exact .inr hck
  have hbd : ∀ j, 0 ≤ g j ∧ g j + (ord.length * B : Nat) ≤ 4611686018427387904 := fun j => by
    have := hg j
    have h2 : ord.length * B ≤ 65536 * B := Nat.mul_le_mul_right _ (by omega)
    omega
  have hF := sweep_eq (fun c => nextAll Cm c Ls Zs (Zm c) (Lm c)) B ord g (fun c hc1 => hnl c ((hmem c).1 hc1)) hbd (fun c hc1 => (hirr c).resolve_right (fun h => h ((hmem c).1 hc1))) htop
  have hto : ∀ c, c < k → on c = true → 0 < sweep (fun c => nextAll Cm c Ls Zs (Zm c) (Lm c)) ord g c := by
    refine hon.least _ (fun c _ h => ?_) (fun c hck h y hy => ?_)
    · rw [hF c]; omega
    · rw [hF y.toNat]
      have h1 := hg y.toNat
      have h2 := sumOf_ge (φ := fun c => if 0 < sweep (fun c => nextAll Cm c Ls Zs (Zm c) (Lm c)) ord g c then cntN y.toNat (nextAll Cm c Ls Zs (Zm c) (Lm c)) else 0) ((hmem c).2 hck)
      have h3 := cntN_pos_of hy rfl
      simp only [h, if_true] at h2
      omega
  have hfrom : ∀ N, ∀ pre c post, ord = pre ++ c :: post → pre.length = N → 0 < sweep (fun c => nextAll Cm c Ls Zs (Zm c) (Lm c)) ord g c → on c = true := by
    intro N
    induction N using Nat.strongRecOn with
    | ind N ih =>
      intro pre c post ho hN hpos
      have hck : c < k := (hmem c).1 (by rw [ho]; simp)
      by_cases hgc : 0 < g c
      · exact hon.start c hck hgc
      · rw [hF c] at hpos
        obtain ⟨c', hc', hp'⟩ := sumOf_pos (by have := hg c; omega : 0 < sumOf ord (fun c_1 => if 0 < sweep (fun c => nextAll Cm c Ls Zs (Zm c) (Lm c)) ord g c_1 then cntN c (nextAll Cm c_1 Ls Zs (Zm c_1) (Lm c_1)) else 0))
        by_cases hact : 0 < sweep (fun c => nextAll Cm c Ls Zs (Zm c) (Lm c)) ord g c'
        · simp only [hact, if_true] at hp'
          have hck' := (hmem c').1 hc'
          have hpre : c' ∈ pre := by
            rw [ho] at hc'
            rcases List.mem_append.1 hc' with h | h
            · exact h
            · rcases List.mem_cons.1 h with rfl | h
              · have := (hirr c').resolve_right (fun h => h hck'); omega
              · rw [ho] at htop
                have h1 := (List.pairwise_cons.1 (List.pairwise_append.1 htop).2.1).1 c' h
                omega
          obtain ⟨p1, p2, hp⟩ := List.append_of_mem hpre
          have hon' := ih p1.length (by rw [← hN, hp]; simp) p1 c' (p2 ++ c :: post) (by rw [ho, hp]; simp) rfl hact
          obtain ⟨y, hy, e⟩ := cntN_pos hp'
          have := hon.step c' hck' hon' y hy
          rwa [e] at this
        · simp only [hact, if_false] at hp'
          omega
  have hiff : ∀ c, c < k → (0 < sweep (fun c => nextAll Cm c Ls Zs (Zm c) (Lm c)) ord g c ↔ on c = true) := fun c hck => by
    constructor
    · intro h
      obtain ⟨pre, post, ho⟩ := List.append_of_mem ((hmem c).2 hck)
      exact hfrom _ pre c post ho rfl h
    · exact hto c hck
  have hbe : ∀ j, 0 ≤ g j ∧ g j + (n * 1048576 : Nat) ≤ 4611686018427387904 := fun j => by have := hg j; omega
  have hE := (exp_eq (Cm := Cm) (Ls := Ls) (Zs := Zs) (on := on) (g := g) (B := 1048576) n hLs hbe d).1
  rw [hF d, hE]
  congr 2
  rw [← sumOf_perm (places_perm (fun c h j hj => ⟨(hm c h j hj).1, (hm c h j hj).2.1⟩) onto inj), places, sumOf_flatMap, sumOf_perm hperm]
  refine sumOf_congr fun c hc1 => ?_
  have hck := List.mem_range.1 hc1
  rw [sumOf_map]
  by_cases h : on c = true
  · rw [if_pos ((hiff c hck).2 h), cnt_nextAll]
    refine sumOf_congr fun i hi => ?_
    have h1 := (hm c hck i (List.mem_range.1 hi)).2.2
    rw [h1]
    simp only [Int.toNat_natCast, h, if_true]
  · rw [if_neg (fun h' => h ((hiff c hck).1 h')), sumOf_zero]
    intro i hi
    have h1 := (hm c hck i (List.mem_range.1 hi)).2.2
    rw [h1]
    simp only [Int.toNat_natCast, h]
    rfl
theorem gcnt_bound (D : DataW Unit) (Cm : Nat → Int) (G : Nat → ByteArray) : ∀ i, i ≤ 65536 → ∀ c, 0 ≤ gcnt D Cm G i c ∧ gcnt D Cm G i c ≤ i
  | 0, _, c => by simp [gcnt]
  | i + 1, hi, c => by
    have ih := gcnt_bound D Cm G i (by omega)
    rw [gcnt]
    split
    · unfold bump
      split
      · have h1 := ih (Cm (numIx D (G i))).toNat
        rw [wrap64_small (by omega) (by omega)]; omega
      · have := ih c; omega
    · have := ih c; omega
theorem down_match {n k gn : Nat} {Cm : Nat → Int} {Ls Lm : Nat → Nat} {Zs Zm : Nat → Nat → Int} {D : DataW Unit} {G : Nat → ByteArray} {on : Nat → Bool} (hc : ∀ v, v < n → 0 ≤ Cm v ∧ Cm v < k)
    (hm : ∀ c, c < k → ∀ j, j < Lm c → 0 ≤ Zm c j ∧ Zm c j < n ∧ Cm (Zm c j).toNat = c) (onto : ∀ v, v < n → ∃ c j, c < k ∧ j < Lm c ∧ Zm c j = v ∧ Cm v = c)
    (inj : ∀ c j c' j', c < k → j < Lm c → c' < k → j' < Lm c' → Zm c j = Zm c' j' → c = c' ∧ j = j') (hs : ∀ v, v < n → ∀ j, j < Ls v → 0 ≤ Zs v j ∧ Zs v j < n ∧ Cm (Zs v j).toNat ≤ Cm v)
    (hn : n ≤ 65536) (hk : k ≤ 65536) (hgn : gn ≤ 65536) (hLs : ∀ v, v < n → Ls v ≤ 1048576) (hLm : ∀ c, c < k → Lm c ≤ 1048576)
    (hon : OnOk k (gcnt D Cm G gn) (fun c => nextAll Cm c Ls Zs (Zm c) (Lm c)) on) (d : Nat) :
    dnAt k (fun c => nextAll Cm c Ls Zs (Zm c) (Lm c)) (gcnt D Cm G gn) k d = expAt Cm Ls Zs on (gcnt D Cm G gn) n d := by
  rw [dnAt_sweep]
  refine counts_match hc hm onto inj (fun v hv j hj => ⟨(hs v hv j hj).1, (hs v hv j hj).2.1⟩) hn hk hLs hLm rfl (fun j => by have := gcnt_bound D Cm G gn hgn j; omega) ?_ ?_ hon d
  · refine (List.perm_ext_iff_of_nodup ?_ List.nodup_range).2 fun v => ?_
    · refine List.pairwise_map.2 (List.Pairwise.imp_of_mem ?_ List.nodup_range)
      intro i j hi hj hne e
      have h1 := List.mem_range.1 hi
      have h2 := List.mem_range.1 hj
      omega
    · rw [List.mem_range, List.mem_map]
      constructor
      · rintro ⟨s, h1, rfl⟩
        have := List.mem_range.1 h1; omega
      · intro h
        exact ⟨k - 1 - v, List.mem_range.2 (by omega), by omega⟩
  · refine List.pairwise_map.2 (List.Pairwise.imp_of_mem ?_ List.pairwise_lt_range)
    intro i j hi hj hlt
    have h1 := List.mem_range.1 hi
    have h2 := List.mem_range.1 hj
    rcases Nat.eq_zero_or_pos (cntN (k - 1 - i) (nextAll Cm (k - 1 - j) Ls Zs (Zm (k - 1 - j)) (Lm (k - 1 - j)))) with h | h
    · exact h
    · obtain ⟨y, hy, e⟩ := cntN_pos h
      obtain ⟨h3, a, t, ha, ht, h4⟩ := nextAll_form _ y hy
      have h5 := hm (k - 1 - j) (by omega) a ha
      have h6 := hs (Zm (k - 1 - j) a).toNat (by omega) t ht
      have h7 := hc (Zs (Zm (k - 1 - j) a).toNat t).toNat (by omega)
      omega
theorem up_match {n k gn : Nat} {Cm : Nat → Int} {Ls Lm : Nat → Nat} {Zs Zm : Nat → Nat → Int} {D : DataW Unit} {G : Nat → ByteArray} {on : Nat → Bool} (hc : ∀ v, v < n → 0 ≤ Cm v ∧ Cm v < k)
    (hm : ∀ c, c < k → ∀ j, j < Lm c → 0 ≤ Zm c j ∧ Zm c j < n ∧ Cm (Zm c j).toNat = c) (onto : ∀ v, v < n → ∃ c j, c < k ∧ j < Lm c ∧ Zm c j = v ∧ Cm v = c)
    (inj : ∀ c j c' j', c < k → j < Lm c → c' < k → j' < Lm c' → Zm c j = Zm c' j' → c = c' ∧ j = j') (hs : ∀ v, v < n → ∀ j, j < Ls v → 0 ≤ Zs v j ∧ Zs v j < n ∧ Cm v ≤ Cm (Zs v j).toNat)
    (hn : n ≤ 65536) (hk : k ≤ 65536) (hgn : gn ≤ 65536) (hLs : ∀ v, v < n → Ls v ≤ 1048576) (hLm : ∀ c, c < k → Lm c ≤ 1048576)
    (hon : OnOk k (gcnt D Cm G gn) (fun c => nextAll Cm c Ls Zs (Zm c) (Lm c)) on) (d : Nat) :
    upAt (fun c => nextAll Cm c Ls Zs (Zm c) (Lm c)) (gcnt D Cm G gn) k d = expAt Cm Ls Zs on (gcnt D Cm G gn) n d := by
  rw [upAt_sweep]
  refine counts_match hc hm onto inj (fun v hv j hj => ⟨(hs v hv j hj).1, (hs v hv j hj).2.1⟩) hn hk hLs hLm rfl (fun j => by have := gcnt_bound D Cm G gn hgn j; omega) (List.Perm.refl _) ?_ hon d
  refine List.Pairwise.imp_of_mem ?_ List.pairwise_lt_range
  intro i j hi hj hlt
  have h1 := List.mem_range.1 hi
  have h2 := List.mem_range.1 hj
  rcases Nat.eq_zero_or_pos (cntN i (nextAll Cm j Ls Zs (Zm j) (Lm j))) with h | h
  · exact h
  · obtain ⟨y, hy, e⟩ := cntN_pos h
    obtain ⟨h3, a, t, ha, ht, h4⟩ := nextAll_form _ y hy
    have h5 := hm j (by omega) a ha
    have h6 := hs (Zm j a).toNat (by omega) t ht
    have h7 := hc (Zs (Zm j a).toNat t).toNat (by omega)
    omega
end Go.Proofs.Qxb6601698a
