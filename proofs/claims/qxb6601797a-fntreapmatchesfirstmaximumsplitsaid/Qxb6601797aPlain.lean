/- The plain law of treap: a stack that keeps the right edge builds the Cartesian tree. No Go here. -/
import Derived.Test.Qxb6601797aBase
namespace Go.Proofs.Qxb6601797a

/-- the tree of the first maxima over the positions lo ..< hi: its root's number is c, its parent's par.
    p: the priorities by position; ν: the numbers by position; G: each number's left, right, parent. -/
inductive CT (p : Nat → Int) (ν : Nat → Nat) (G : Nat → Nat → Int) : Nat → Nat → Int → Int → Prop
  | nil (lo : Nat) (par : Int) : CT p ν G lo lo par 0
  | node {lo m hi : Nat} {par l r : Int} (h1 : lo ≤ m) (h2 : m < hi) (hl : ∀ j, lo ≤ j → j < m → p j < p m) (hr : ∀ j, m < j → j < hi → p j ≤ p m)
      (gl : G (ν m) 0 = l) (gr : G (ν m) 1 = r) (gq : G (ν m) 2 = par) (tl : CT p ν G lo m (ν m) l) (tr : CT p ν G (m + 1) hi (ν m) r) : CT p ν G lo hi par (ν m)

theorem CT.congr {p : Nat → Int} {ν : Nat → Nat} {G G' : Nat → Nat → Int} {lo hi : Nat} {par c : Int} (h : CT p ν G lo hi par c) :
    (∀ m, lo ≤ m → m < hi → ∀ k, k < 3 → G' (ν m) k = G (ν m) k) → CT p ν G' lo hi par c := by
  induction h with
  | nil lo par => intro _; exact .nil lo par
  | node h1 h2 hl hr gl gr gq tl tr il ir =>
    intro hg
    refine .node h1 h2 hl hr ?_ ?_ ?_ (il fun m a b k hk => hg m a (by omega) k hk) (ir fun m a b k hk => hg m (by omega) b k hk)
    · rw [hg _ h1 h2 0 (by omega)]; exact gl
    · rw [hg _ h1 h2 1 (by omega)]; exact gr
    · rw [hg _ h1 h2 2 (by omega)]; exact gq

theorem CT.le {p : Nat → Int} {ν : Nat → Nat} {G : Nat → Nat → Int} {lo hi : Nat} {par c : Int} (h : CT p ν G lo hi par c) : lo ≤ hi := by
  cases h with
  | nil => exact Nat.le_refl _
  | node h1 h2 => omega

theorem CT.root {p : Nat → Int} {ν : Nat → Nat} {G : Nat → Nat → Int} {lo hi : Nat} {par c : Int} (h : CT p ν G lo hi par c) : c = 0 ∨ ∃ m, lo ≤ m ∧ m < hi ∧ c = (ν m : Int) := by
  cases h with
  | nil => exact .inl rfl
  | node h1 h2 => exact .inr ⟨_, h1, h2, rfl⟩

/-- the same tree under another parent -/
theorem CT.reparent {p : Nat → Int} {ν : Nat → Nat} {G G' : Nat → Nat → Int} {lo hi : Nat} {par c : Int} (h : CT p ν G lo hi par c) (q : Int)
    (hinj : ∀ i j, i < hi → j < hi → ν i = ν j → i = j) (h01 : ∀ m, lo ≤ m → m < hi → G' (ν m) 0 = G (ν m) 0 ∧ G' (ν m) 1 = G (ν m) 1)
    (h2 : ∀ m, lo ≤ m → m < hi → (ν m : Int) ≠ c → G' (ν m) 2 = G (ν m) 2) (hq : ∀ m, lo ≤ m → m < hi → (ν m : Int) = c → G' (ν m) 2 = q) : CT p ν G' lo hi q c := by
  cases h with
  | nil => exact .nil _ _
  | @node lo m hi par l r a1 a2 hl hr gl gr gq tl tr =>
    have hk : ∀ j, lo ≤ j → j < hi → j ≠ m → ∀ k, k < 3 → G' (ν j) k = G (ν j) k := fun j b1 b2 hne k hk => by
      match k, hk with
      | 0, _ => exact (h01 j b1 b2).1
      | 1, _ => exact (h01 j b1 b2).2
      | 2, _ => exact h2 j b1 b2 fun e => hne (hinj j m b2 a2 (by exact_mod_cast e))
    refine .node a1 a2 hl hr ?_ ?_ (hq m a1 a2 rfl) (tl.congr fun j b1 b2 => hk j b1 (by omega) (by omega)) (tr.congr fun j b1 b2 => hk j (by omega) b2 (by omega))
    · rw [(h01 m a1 a2).1]; exact gl
    · rw [(h01 m a1 a2).2]; exact gr

def top (ν : Nat → Nat) : List Nat → Int
  | [] => 0
  | e :: _ => (ν e : Int)
def bas : List Nat → Nat
  | [] => 0
  | e :: _ => e + 1
def bot : List Nat → Nat
  | [] => 0
  | [e] => e
  | _ :: e :: st => bot (e :: st)

/-- the right edge, the latest first -/
def Sp (p : Nat → Int) (ν : Nat → Nat) (G : Nat → Nat → Int) : List Nat → Prop
  | [] => True
  | e :: st => bas st ≤ e ∧ (∀ j, bas st ≤ j → j < e → p j < p e) ∧ CT p ν G (bas st) e (ν e) (G (ν e) 0) ∧ G (ν e) 2 = top ν st ∧
      (∀ e' st', st = e' :: st' → p e ≤ p e' ∧ G (ν e') 1 = (ν e : Int)) ∧ Sp p ν G st

theorem Sp.congr {p : Nat → Int} {ν : Nat → Nat} {G G' : Nat → Nat → Int} : ∀ {st : List Nat}, Sp p ν G st → (∀ m, m < bas st → G' (ν m) 0 = G (ν m) 0 ∧ G' (ν m) 2 = G (ν m) 2) →
    (∀ m, m + 1 < bas st → G' (ν m) 1 = G (ν m) 1) → Sp p ν G' st
  | [], _, _, _ => trivial
  | e :: st, ⟨h1, h2, h3, h4, h5, h6⟩, ha, hb => by
    have ha' : ∀ m, m < e + 1 → G' (ν m) 0 = G (ν m) 0 ∧ G' (ν m) 2 = G (ν m) 2 := ha
    have hb' : ∀ m, m + 1 < e + 1 → G' (ν m) 1 = G (ν m) 1 := hb
    have e0 := ha' e (by omega)
    refine ⟨h1, h2, ?_, ?_, ?_, Sp.congr h6 (fun m hm => ha' m (by omega)) (fun m hm => hb' m (by omega))⟩
    · rw [e0.1]
      refine h3.congr fun m a b k hk => ?_
      match k, hk with
      | 0, _ => exact (ha' m (by omega)).1
      | 1, _ => exact hb' m (by omega)
      | 2, _ => exact (ha' m (by omega)).2
    · rw [e0.2]; exact h4
    · intro e' st' he
      obtain ⟨q1, q2⟩ := h5 e' st' he
      refine ⟨q1, ?_⟩
      subst he
      have : e' + 1 ≤ e := h1
      rw [hb' e' (by omega)]
      exact q2

/-- while the edge is taken down before item i: c is the root of what has been taken off -/
structure Pop (p : Nat → Int) (ν : Nat → Nat) (G : Nat → Nat → Int) (i : Nat) (st : List Nat) (c : Int) : Prop where
  sp : Sp p ν G st
  tree : CT p ν G (bas st) i (top ν st) c
  lt : ∀ j, bas st ≤ j → j < i → p j < p i
  right : ∀ e st', st = e :: st' → G (ν e) 1 = c ∧ ∀ j, e < j → j < i → p j ≤ p e

theorem Pop.start {p : Nat → Int} {ν : Nat → Nat} {G : Nat → Nat → Int} {st : List Nat} (h : Sp p ν G st) (hr : ∀ e st', st = e :: st' → G (ν e) 1 = 0) : Pop p ν G (bas st) st 0 :=
  ⟨h, .nil _ _, fun j a b => by omega, fun e st' he => ⟨hr e st' he, fun j a b => by subst he; simp only [bas] at b; omega⟩⟩

theorem Pop.pop {p : Nat → Int} {ν : Nat → Nat} {G : Nat → Nat → Int} {i e : Nat} {st : List Nat} {c : Int} (h : Pop p ν G i (e :: st) c) (hp : p e < p i) : Pop p ν G i st (ν e) := by
  obtain ⟨⟨h1, h2, h3, h4, h5, h6⟩, ht, hlt, hri⟩ := h
  obtain ⟨r1, r2⟩ := hri e st rfl
  have hle : e + 1 ≤ i := ht.le
  refine ⟨h6, .node h1 (by omega) h2 r2 rfl r1 h4 h3 ht, fun j a b => ?_, fun e' st' he => ?_⟩
  · rcases Nat.lt_trichotomy j e with q | q | q
    · have := h2 j a q; omega
    · subst q; exact hp
    · exact hlt j (show e + 1 ≤ j by omega) b
  · obtain ⟨q1, q2⟩ := h5 e' st' he
    refine ⟨q2, fun j a b => ?_⟩
    subst he
    rcases Nat.lt_trichotomy j e with q | q | q
    · have := h2 j (show e' + 1 ≤ j by omega) q; omega
    · subst q; exact q1
    · have := r2 j q b; omega

/-- item i put on the edge -/
theorem Pop.push {p : Nat → Int} {ν : Nat → Nat} {G G' : Nat → Nat → Int} {i nn : Nat} {st : List Nat} {c : Int} (h : Pop p ν G i st c) (hi : i < nn) (hpos : ∀ m, m < nn → 0 < ν m) (hinj : ∀ a b, a < nn → b < nn → ν a = ν b → a = b)
    (hp : ∀ e st', st = e :: st' → p i ≤ p e) (h0 : G' (ν i) 0 = c) (h2 : G' (ν i) 2 = top ν st)
    (hm0 : ∀ m, m < nn → m ≠ i → G' (ν m) 0 = G (ν m) 0)
    (hm1 : ∀ m, m < nn → m ≠ i → (∀ e st', st = e :: st' → m ≠ e) → G' (ν m) 1 = G (ν m) 1) (hm1' : ∀ e st', st = e :: st' → G' (ν e) 1 = (ν i : Int))
    (hm2 : ∀ m, m < nn → m ≠ i → (ν m : Int) ≠ c → G' (ν m) 2 = G (ν m) 2) (hm2' : ∀ m, m < nn → m ≠ i → (ν m : Int) = c → G' (ν m) 2 = (ν i : Int)) :
    Sp p ν G' (i :: st) := by
  have hle := h.tree.le
  have hnc : ∀ m, m < bas st → (ν m : Int) ≠ c := fun m hm e => by
    rcases h.tree.root with rfl | ⟨m', a, b, rfl⟩
    · have := hpos m (by omega); omega
    · have := hinj m m' (by omega) (by omega) (by exact_mod_cast e)
      omega
  refine ⟨hle, h.lt, ?_, h2, fun e st' he => ⟨hp e st' he, hm1' e st' he⟩, h.sp.congr (fun m hm => ⟨hm0 m (by omega) (by omega), hm2 m (by omega) (by omega) (hnc m hm)⟩) (fun m hm => hm1 m (by omega) (by omega) fun e st' he => by subst he; simp only [bas] at hm; omega)⟩
  rw [h0]
  refine h.tree.reparent _ (fun a b ha hb => hinj a b (by omega) (by omega)) (fun m a b => ⟨hm0 m (by omega) (by omega), hm1 m (by omega) (by omega) fun e st' he => by subst he; simp only [bas] at a; omega⟩) (fun m a b hne => hm2 m (by omega) (by omega) hne) (fun m a b he => hm2' m (by omega) (by omega) he)

theorem Sp.close {p : Nat → Int} {ν : Nat → Nat} {G : Nat → Nat → Int} {hi : Nat} : ∀ (st : List Nat) (e : Nat), Sp p ν G (e :: st) → e < hi → CT p ν G (e + 1) hi (ν e) (G (ν e) 1) → (∀ j, e < j → j < hi → p j ≤ p e) →
    CT p ν G 0 hi 0 (ν (bot (e :: st)))
  | [], e, ⟨h1, h2, h3, h4, _, _⟩, he, ht, hr => .node (Nat.zero_le _) he h2 hr rfl rfl h4 h3 ht
  | e' :: st, e, ⟨h1, h2, h3, h4, h5, h6⟩, he, ht, hr => by
    obtain ⟨q1, q2⟩ := h5 e' st rfl
    have hle : e' + 1 ≤ e := h1
    refine Sp.close st e' h6 (by omega) ?_ fun j a b => ?_
    · rw [q2]
      exact .node h1 he h2 hr rfl rfl h4 h3 ht
    · rcases Nat.lt_trichotomy j e with q | q | q
      · have := h2 j (show e' + 1 ≤ j by omega) q; omega
      · subst q; exact q1
      · have := hr j q b; omega

theorem Sp.done {p : Nat → Int} {ν : Nat → Nat} {G : Nat → Nat → Int} {st : List Nat} {e : Nat} (h : Sp p ν G (e :: st)) (hr : G (ν e) 1 = 0) : CT p ν G 0 (e + 1) 0 (ν (bot (e :: st))) :=
  Sp.close st e h (by omega) (by rw [hr]; exact .nil _ _) fun j a b => by omega
end Go.Proofs.Qxb6601797a
