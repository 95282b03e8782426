/- The search of zzB1SideCounts, plainly: no Go in sight. -/
import Derived.Test.Qxb6601698aCountLaw
namespace Go.Proofs.Qxb6601698a

def upd (on : Nat → Bool) (e : Nat) : Nat → Bool := fun c => if c = e then true else on c
theorem upd_true {on : Nat → Bool} {e c : Nat} (h : on c = true) : upd on e c = true := by
  unfold upd; split
  · rfl
  · exact h
theorem upd_self (on : Nat → Bool) (e : Nat) : upd on e e = true := by simp [upd]
/-- how many are off -/
def off (k : Nat) (on : Nat → Bool) : Nat := (List.range k).countP (fun c => !on c)
theorem countP_upd {on : Nat → Bool} {e : Nat} (he : on e = false) : ∀ l : List Nat, l.Nodup → l.countP (fun c => !upd on e c) + (if e ∈ l then 1 else 0) = l.countP (fun c => !on c)
  | [], _ => by simp
  | c :: l, hn => by
    obtain ⟨h1, h2⟩ := List.nodup_cons.1 hn
    have ih := countP_upd he l h2
    rw [List.countP_cons, List.countP_cons]
    by_cases e1 : c = e
    · subst e1
      have e2 : upd on c c = true := upd_self on c
      rw [e2, he]
      simp only [h1, if_false] at ih
      simp
      omega
    · have e2 : upd on e c = on c := by simp [upd, e1]
      rw [e2]
      have e3 : (e ∈ c :: l) ↔ e ∈ l := by simp [Ne.symm e1]
      by_cases e4 : e ∈ l
      · simp only [e4, if_true] at ih
        rw [if_pos (e3.2 e4)]
        omega
      · simp only [e4, if_false] at ih
        rw [if_neg (fun h => e4 (e3.1 h))]
        omega
theorem off_upd {k : Nat} {on : Nat → Bool} {e : Nat} (hek : e < k) (he : on e = false) : off k (upd on e) + 1 = off k on := by
  have := countP_upd he (List.range k) List.nodup_range
  rw [if_pos (List.mem_range.2 hek)] at this
  exact this

/-- while the search goes: cl tells which component is being worked through -/
structure Srch (k : Nat) (g : Nat → Int) (nx : Nat → List Int) (on : Nat → Bool) (ws : List Int) (cl : Nat → Prop) (M : Nat) : Prop where
  start : ∀ c, c < k → 0 < g c → on c = true
  step : ∀ c, c < k → on c = true → (c : Int) ∈ ws ∨ cl c ∨ ∀ y ∈ nx c, on y.toNat = true
  mem : ∀ y ∈ ws, 0 ≤ y ∧ y < k ∧ on y.toNat = true
  least : ∀ P : Nat → Prop, (∀ c, c < k → 0 < g c → P c) → (∀ c, c < k → P c → ∀ y ∈ nx c, P y.toNat) → ∀ c, c < k → on c = true → P c
  meas : off k on + ws.length ≤ M

/-- the first loop: the components that the group holds -/
def on0 (g : Nat → Int) (c : Nat) : Nat → Bool := fun d => decide (d < c ∧ 0 < g d)
def ws0 (g : Nat → Int) : Nat → List Int
  | 0 => []
  | c + 1 => if 0 < g c then ws0 g c ++ [(c : Int)] else ws0 g c
theorem ws0_mem (g : Nat → Int) : ∀ c y, y ∈ ws0 g c ↔ ∃ d : Nat, y = d ∧ d < c ∧ 0 < g d
  | 0, y => by simp [ws0]
  | c + 1, y => by
    have ih := ws0_mem g c y
    rw [ws0]
    split
    · rename_i h
      rw [List.mem_append, ih, List.mem_singleton]
      constructor
      · rintro (⟨d, h1, h2, h3⟩ | rfl)
        · exact ⟨d, h1, by omega, h3⟩
        · exact ⟨c, rfl, by omega, h⟩
      · rintro ⟨d, h1, h2, h3⟩
        by_cases e : d = c
        · subst e; exact .inr h1
        · exact .inl ⟨d, h1, by omega, h3⟩
    · rename_i h
      rw [ih]
      constructor
      · rintro ⟨d, h1, h2, h3⟩
        exact ⟨d, h1, by omega, h3⟩
      · rintro ⟨d, h1, h2, h3⟩
        by_cases e : d = c
        · subst e; exact absurd h3 h
        · exact ⟨d, h1, by omega, h3⟩
theorem ws0_len (g : Nat → Int) : ∀ c, (ws0 g c).length ≤ c
  | 0 => by simp [ws0]
  | c + 1 => by
    have := ws0_len g c
    rw [ws0]
    split <;> simp <;> omega
theorem on0_hit {g : Nat → Int} {c : Nat} (h : 0 < g c) : ∀ d, on0 g (c + 1) d = upd (on0 g c) c d := by
  intro d
  unfold on0 upd
  by_cases e : d = c
  · subst e; simp [h]
  · rw [if_neg e]
    have : (d < c + 1 ∧ 0 < g d) ↔ (d < c ∧ 0 < g d) := by constructor <;> (rintro ⟨h1, h2⟩; exact ⟨by omega, h2⟩)
    simp [this]
theorem on0_miss {g : Nat → Int} {c : Nat} (h : ¬ 0 < g c) : ∀ d, on0 g (c + 1) d = on0 g c d := by
  intro d
  unfold on0
  have : (d < c + 1 ∧ 0 < g d) ↔ (d < c ∧ 0 < g d) := by
    constructor
    · rintro ⟨h1, h2⟩
      by_cases e : d = c
      · subst e; exact absurd h2 h
      · exact ⟨by omega, h2⟩
    · rintro ⟨h1, h2⟩; exact ⟨by omega, h2⟩
  simp [this]
theorem off_on0 (g : Nat → Int) (k : Nat) : ∀ c, c ≤ k → off k (on0 g c) + (ws0 g c).length = k
  | 0, _ => by simp [off, on0, ws0]
  | c + 1, hc => by
    have ih := off_on0 g k c (by omega)
    rw [ws0]
    by_cases h : 0 < g c
    · rw [if_pos h, funext (on0_hit h)]
      have := off_upd (on := on0 g c) (e := c) (k := k) (by omega) (by simp [on0])
      simp only [List.length_append, List.length_singleton]
      omega
    · rw [if_neg h, funext (on0_miss h)]
      exact ih
theorem Srch.init (k : Nat) (g : Nat → Int) (nx : Nat → List Int) : Srch k g nx (on0 g k) (ws0 g k) (fun _ => False) k := by
  refine ⟨fun c hc h => by simp [on0, hc, h], fun c hc h => .inl ((ws0_mem g k _).2 ⟨c, rfl, hc, ?_⟩), fun y hy => ?_, fun P h1 _ c hc h => h1 c hc ?_, Nat.le_of_eq (off_on0 g k k (Nat.le_refl _))⟩
  · simp [on0] at h; exact h.2
  · obtain ⟨d, rfl, h1, h2⟩ := (ws0_mem g k y).1 hy
    exact ⟨by omega, by omega, by simp [on0, h1, h2]⟩
  · simp [on0] at h; exact h.2
/-- one is taken off the stack -/
theorem Srch.pop {k : Nat} {g : Nat → Int} {nx : Nat → List Int} {on : Nat → Bool} {ws : List Int} {c M : Nat} (h : Srch k g nx on (ws ++ [(c : Int)]) (fun _ => False) M) : Srch k g nx on ws (fun x => x = c) (M - 1) ∧ 0 < M ∧ c < k ∧ on c = true := by
  have hm := h.meas
  have hc := h.mem c (by simp)
  simp only [List.length_append, List.length_singleton] at hm
  refine ⟨⟨h.start, fun x hx hon => ?_, fun y hy => h.mem y (by simp [hy]), h.least, by omega⟩, by omega, by omega, by simpa using hc.2.2⟩
  rcases h.step x hx hon with h1 | h1 | h1
  · rcases List.mem_append.1 h1 with h2 | h2
    · exact .inl h2
    · simp at h2; exact .inr (.inl (by omega))
  · exact h1.elim
  · exact .inr (.inr h1)
/-- a component is reached and laid on the stack -/
theorem Srch.push {k : Nat} {g : Nat → Int} {nx : Nat → List Int} {on : Nat → Bool} {ws : List Int} {c M e : Nat} (h : Srch k g nx on ws (fun x => x = c) M) (hck : c < k) (hc : on c = true) (hek : e < k) (he : on e = false) (hnx : e ≠ c → (e : Int) ∈ nx c) :
    Srch k g nx (upd on e) (ws ++ [(e : Int)]) (fun x => x = c) M := by
  have hne : e ≠ c := fun h1 => by rw [h1, hc] at he; cases he
  refine ⟨fun x hx hg => upd_true (h.start x hx hg), fun x hx hon => ?_, fun y hy => ?_, fun P h1 h2 x hx hon => ?_, ?_⟩
  · by_cases e1 : x = e
    · subst e1; exact .inl (by simp)
    · have : on x = true := by simpa [upd, e1] using hon
      rcases h.step x hx this with h3 | h3 | h3
      · exact .inl (by simp [h3])
      · exact .inr (.inl h3)
      · exact .inr (.inr (fun y hy => upd_true (h3 y hy)))
  · rcases List.mem_append.1 hy with h3 | h3
    · obtain ⟨h4, h5, h6⟩ := h.mem y h3
      exact ⟨h4, h5, upd_true h6⟩
    · simp only [List.mem_singleton] at h3
      subst h3
      exact ⟨by omega, by omega, by simpa using upd_self on e⟩
  · by_cases e1 : x = e
    · subst e1
      have := h2 c hck (h.least P h1 h2 c hck hc) x (hnx hne)
      simpa using this
    · exact h.least P h1 h2 x hx (by simpa [upd, e1] using hon)
  · have h1 := off_upd hek he
    have h2 := h.meas
    simp only [List.length_append, List.length_singleton]
    omega
/-- the component is worked through -/
theorem Srch.done {k : Nat} {g : Nat → Int} {nx : Nat → List Int} {on : Nat → Bool} {ws : List Int} {c M : Nat} (h : Srch k g nx on ws (fun x => x = c) M) (hcl : ∀ y ∈ nx c, on y.toNat = true) : Srch k g nx on ws (fun _ => False) M := by
  refine ⟨h.start, fun x hx hon => ?_, h.mem, h.least, h.meas⟩
  rcases h.step x hx hon with h3 | h3 | h3
  · exact .inl h3
  · subst h3; exact .inr (.inr hcl)
  · exact .inr (.inr h3)
theorem Srch.finish {k : Nat} {g : Nat → Int} {nx : Nat → List Int} {on : Nat → Bool} {M : Nat} (h : Srch k g nx on [] (fun _ => False) M) : OnOk k g nx on := by
  refine ⟨h.start, fun c hc hon => ?_, h.least⟩
  rcases h.step c hc hon with h3 | h3 | h3
  · simp at h3
  · exact h3.elim
  · exact h3
theorem nextRow_has {Cm : Nat → Int} {c : Int} {Z : Nat → Int} : ∀ t i, i < t → Cm (Z i).toNat ≠ c → Cm (Z i).toNat ∈ nextRow Cm c Z t
  | 0, i, h, _ => by omega
  | t + 1, i, h, hne => by
    rw [nextRow, List.mem_append]
    by_cases e : i = t
    · subst e
      rw [if_neg hne]
      exact .inr (by simp)
    · exact .inl (nextRow_has t i (by omega) hne)
theorem nextAll_has {Cm : Nat → Int} {c : Nat} {Ls : Nat → Nat} {Zs : Nat → Nat → Int} {Zc : Nat → Int} : ∀ j i t, i < j → t < Ls (Zc i).toNat → Cm (Zs (Zc i).toNat t).toNat ≠ c → Cm (Zs (Zc i).toNat t).toNat ∈ nextAll Cm c Ls Zs Zc j
  | 0, i, _, h, _, _ => by omega
  | j + 1, i, t, h, ht, hne => by
    rw [nextAll, List.mem_append]
    by_cases e : i = j
    · subst e
      exact .inr (nextRow_has _ t ht hne)
    · exact .inl (nextAll_has j i t (by omega) ht hne)
end Go.Proofs.Qxb6601698a
