/- What the Cartesian tree says of each of its nodes, and the walk in order over it. No Go here. -/
import Derived.Test.Qxb6601797aPlain2
namespace Go.Proofs.Qxb6601797a

theorem CT.root' {p : Nat → Int} {ν : Nat → Nat} {G : Nat → Nat → Int} {lo hi : Nat} {par c : Int} (h : CT p ν G lo hi par c) : (c = 0 ∧ lo = hi) ∨ ∃ m, lo ≤ m ∧ m < hi ∧ c = (ν m : Int) ∧ G (ν m) 2 = par := by
  cases h with
  | nil => exact .inl ⟨rfl, rfl⟩
  | node h1 h2 _ _ _ _ gq => exact .inr ⟨_, h1, h2, rfl, gq⟩

/-- a child link: none, or a node of the tree whose parent link leads back, of no greater priority -/
def Child (p : Nat → Int) (ν : Nat → Nat) (G : Nat → Nat → Int) (lo hi i : Nat) (v : Int) : Prop := v = 0 ∨ ∃ j, lo ≤ j ∧ j < hi ∧ v = (ν j : Int) ∧ G (ν j) 2 = (ν i : Int) ∧ p j ≤ p i
theorem Child.mono {p : Nat → Int} {ν : Nat → Nat} {G : Nat → Nat → Int} {lo hi lo' hi' i : Nat} {v : Int} (h : Child p ν G lo hi i v) (h1 : lo' ≤ lo) (h2 : hi ≤ hi') : Child p ν G lo' hi' i v := by
  rcases h with h | ⟨j, a, b, r⟩
  · exact .inl h
  · exact .inr ⟨j, by omega, by omega, r⟩

theorem CT.facts {p : Nat → Int} {ν : Nat → Nat} {G : Nat → Nat → Int} {lo hi : Nat} {par c : Int} (h : CT p ν G lo hi par c) : ∀ i, lo ≤ i → i < hi →
    ((G (ν i) 2 = par ∧ (ν i : Int) = c) ∨ ∃ j, lo ≤ j ∧ j < hi ∧ G (ν i) 2 = (ν j : Int)) ∧ Child p ν G lo hi i (G (ν i) 0) ∧ Child p ν G lo hi i (G (ν i) 1) := by
  induction h with
  | nil lo par => intro i a b; omega
  | @node lo m hi par l r h1 h2 hl hr gl gr gq tl tr il ir =>
    intro i a b
    rcases Nat.lt_trichotomy i m with q | q | q
    · obtain ⟨e1, e2, e3⟩ := il i a q
      refine ⟨.inr ?_, e2.mono (Nat.le_refl _) (by omega), e3.mono (Nat.le_refl _) (by omega)⟩
      rcases e1 with ⟨e, _⟩ | ⟨j, x, y, e⟩
      · exact ⟨m, h1, h2, e⟩
      · exact ⟨j, x, by omega, e⟩
    · subst q
      refine ⟨.inl ⟨gq, rfl⟩, ?_, ?_⟩
      · rw [gl]
        rcases tl.root' with ⟨e, _⟩ | ⟨j, x, y, e, e'⟩
        · exact .inl e
        · exact .inr ⟨j, x, by omega, e, e', by have := hl j x y; omega⟩
      · rw [gr]
        rcases tr.root' with ⟨e, _⟩ | ⟨j, x, y, e, e'⟩
        · exact .inl e
        · exact .inr ⟨j, by omega, y, e, e', hr j (by omega) y⟩
    · obtain ⟨e1, e2, e3⟩ := ir i (by omega) b
      refine ⟨.inr ?_, e2.mono (by omega) (Nat.le_refl _), e3.mono (by omega) (Nat.le_refl _)⟩
      rcases e1 with ⟨e, _⟩ | ⟨j, x, y, e⟩
      · exact ⟨m, h1, h2, e⟩
      · exact ⟨j, by omega, y, e⟩

/-- the stack of a walk in order: each node's right tree is still to be walked -/
def Stk (p : Nat → Int) (ν : Nat → Nat) (G : Nat → Nat → Int) (nn : Nat) : List Nat → Nat → Prop
  | [], h => h = nn
  | e :: st, h => h = e ∧ ∃ h', CT p ν G (e + 1) h' (ν e) (G (ν e) 1) ∧ Stk p ν G nn st h'
theorem Stk.len {p : Nat → Int} {ν : Nat → Nat} {G : Nat → Nat → Int} {nn : Nat} : ∀ {st : List Nat} {h : Nat}, Stk p ν G nn st h → h + st.length ≤ nn
  | [], h, e => by have : h = nn := e; simp; omega
  | e :: st, h, ⟨e1, h', hc, hs⟩ => by
    have := Stk.len hs
    have := hc.le
    simp only [List.length_cons]
    omega

/-- the walk has visited the positions below k; it stands at cur -/
def Trav (p : Nat → Int) (ν : Nat → Nat) (G : Nat → Nat → Int) (nn k : Nat) (st : List Nat) (cur : Int) : Prop := ∃ h par, CT p ν G k h par cur ∧ Stk p ν G nn st h

theorem Trav.start {p : Nat → Int} {ν : Nat → Nat} {G : Nat → Nat → Int} {nn : Nat} {r : Int} (h : CT p ν G 0 nn 0 r) : Trav p ν G nn 0 [] r := ⟨nn, 0, h, rfl⟩
theorem Trav.bound {p : Nat → Int} {ν : Nat → Nat} {G : Nat → Nat → Int} {nn k : Nat} {st : List Nat} {cur : Int} (h : Trav p ν G nn k st cur) : k + st.length ≤ nn := by
  obtain ⟨q, par, h1, h2⟩ := h
  have := h1.le
  have := h2.len
  omega
theorem Trav.down {p : Nat → Int} {ν : Nat → Nat} {G : Nat → Nat → Int} {nn k : Nat} {st : List Nat} {cur : Int} (h : Trav p ν G nn k st cur) (hc : cur ≠ 0) : ∃ m, m < nn ∧ cur = (ν m : Int) ∧ k + st.length < nn ∧ Trav p ν G nn k (m :: st) (G (ν m) 0) := by
  obtain ⟨q, par, h1, h2⟩ := h
  cases h1 with
  | nil => exact absurd rfl hc
  | @node _ m _ _ l r a1 a2 hl hr gl gr gq tl tr =>
    have := h2.len
    exact ⟨m, by omega, rfl, by omega, m, (ν m : Int), by rw [gl]; exact tl, rfl, q, by rw [gr]; exact tr, h2⟩
theorem Trav.up {p : Nat → Int} {ν : Nat → Nat} {G : Nat → Nat → Int} {nn k e : Nat} {st : List Nat} (hpos : ∀ m, m < nn → 0 < ν m) (h : Trav p ν G nn k (e :: st) 0) : e = k ∧ k < nn ∧ Trav p ν G nn (k + 1) st (G (ν k) 1) := by
  obtain ⟨q, par, h1, h2⟩ := h
  have hb := h2.len
  obtain ⟨e1, h', hc, hs⟩ := h2
  rcases h1.root with h0 | ⟨m, _, b, e2⟩
  · rcases h1.root' with ⟨_, e3⟩ | ⟨m, a, b, e2, _⟩
    · subst e1 e3
      simp only [List.length_cons] at hb
      exact ⟨rfl, by omega, h', _, hc, hs⟩
    · have := hpos m (by omega); omega
  · have := hpos m (by omega); omega
theorem Trav.fin {p : Nat → Int} {ν : Nat → Nat} {G : Nat → Nat → Int} {nn k : Nat} (hpos : ∀ m, m < nn → 0 < ν m) (h : Trav p ν G nn k [] 0) : k = nn := by
  obtain ⟨q, par, h1, h2⟩ := h
  have e : q = nn := h2
  subst e
  rcases h1.root' with ⟨_, e3⟩ | ⟨m, a, b, e2, _⟩
  · exact e3
  · have := hpos m b; omega
end Go.Proofs.Qxb6601797a
