/- Small words between the calls of the two laws. -/
import Derived.Test.Qxb6601797aPlain3
import Derived.Test.Qxb6601797aCopy
import Derived.Test.Qxb6601797aZp
import Derived.Test.Qxb6601797aMp
import Derived.Test.Qxb6601797aRp
import Derived.Test.Qxb6601797aTreap
namespace Go.Proofs.Qxb6601797a
open Go.RowKit

def RetTrue (w : World) (e : Ending) (w' : World) : Prop := e = .returned (.bool true) ∧ Below w.heap.size w w'

theorem Alike.sizes {x y : Pc} (h : Alike x y) {B : Nat} (hx : x.tn ≤ B ∧ x.mn ≤ B) : y.tn ≤ B ∧ y.mn ≤ B := by
  rw [h.tn, h.mn]
  exact hx
theorem setG_sizes {X : Nat → Pc} {τ : Nat} {G : Nat → Nat → Int} {i B : Nat} (hx : (X i).tn ≤ B ∧ (X i).mn ≤ B) : (setG X τ G i).tn ≤ B ∧ (setG X τ G i).mn ≤ B := hx

/-- the pieces behind treap -/
theorem Pieces.treap {w W' : World} {g n τ : Nat} {t : TypeId} {X : Nat → Pc} {T : Nat → Nat → Int} {M : Nat → Nat → Mk} {G : Nat → Nat → Int} (h : Pieces w g t n X T M) (hF : Fr g w W') (hr : W'.rowIs g t (n * 31) (pcs (setG X τ G))) : Pieces W' g t n (setG X τ G) T M :=
  ⟨hr, fun i hi => (h.text i hi).keep hF.keep, fun i hi => (h.mark i hi).keep hF.keep⟩

theorem owns_form {w : World} {base : Nat} {t : TypeId} {v : Value} {n : Nat} {xs : List Value} (h : w.ownsRow base t 1 v n xs) : ∃ a c, v = .slice a n c := by
  obtain ⟨_, h2⟩ := h
  rcases h2 with ⟨h0, h1⟩ | ⟨g, cap, cur, hv, hg, hh, hn, hcap, hsz, htake⟩
  · exact ⟨none, 0, by rw [h0, h1]⟩
  · exact ⟨_, _, hv⟩

/-- the numbers, as numbers -/
def nu (N : Nat → Int) (i : Nat) : Nat := (N i).toNat
theorem nu_eq {n nn τ : Nat} {X : Nat → Pc} {N : Nat → Int} (h : Prem n nn τ X N) {i : Nat} (hi : i < nn) : N i = (nu N i : Int) := by
  have := h.rng i hi
  unfold nu
  omega
theorem nu_pos {n nn τ : Nat} {X : Nat → Pc} {N : Nat → Int} (h : Prem n nn τ X N) : ∀ m, m < nn → 0 < nu N m := fun m hm => by
  have := h.rng m hm
  have := nu_eq h hm
  omega
theorem nu_lt {n nn τ : Nat} {X : Nat → Pc} {N : Nat → Int} (h : Prem n nn τ X N) : ∀ m, m < nn → nu N m < n := fun m hm => by
  have := h.rng m hm
  have := nu_eq h hm
  omega
theorem nu_inj {n nn τ : Nat} {X : Nat → Pc} {N : Nat → Int} (h : Prem n nn τ X N) : ∀ a b, a < nn → b < nn → nu N a = nu N b → a = b := fun a b ha hb e => by
  refine h.inj a b ha hb ?_
  rw [nu_eq h ha, nu_eq h hb, e]
theorem nu_seen {n nn τ : Nat} {X : Nat → Pc} {N : Nat → Int} (h : Prem n nn τ X N) {m : Nat} (hm : m < nn) : sn N nn (nu N m) = true := (sn_iff N nn _).2 ⟨m, hm, nu_eq h hm⟩

/-- treap's premises, two copies on -/
theorem zero_on {n nn τ : Nat} {X X1 X2 : Nat → Pc} {N : Nat → Int} (h : Prem n nn τ X N) (hτ : τ < 2) (h1 : ∀ i, i < n → Alike (X i) (X1 i)) (h2 : ∀ i, i < n → Alike (X1 i) (X2 i)) : ∀ m, m < nn → ∀ c, c < 3 → (X2 (nu N m)).pl (τ * 3 + c) = 0 := fun m hm c hc => by
  have hl := nu_lt h m hm
  rw [(h2 _ hl).pl _ (by omega), (h1 _ hl).pl _ (by omega)]
  exact h.zero m hm c hc

/-- the tree, told by the first pieces' priorities -/
theorem CT.pri {ν : Nat → Nat} {G : Nat → Nat → Int} {p p' : Nat → Int} {lo hi : Nat} {par c : Int} (h : CT p ν G lo hi par c) : (∀ m, m < hi → p' m = p m) → CT p' ν G lo hi par c := by
  induction h with
  | nil lo par => intro _; exact .nil lo par
  | @node lo m hi par l r h1 h2 hl hr gl gr gq tl tr il ir =>
    intro hp
    have hpm := hp m h2
    refine .node h1 h2 (fun j a b => ?_) (fun j a b => ?_) gl gr gq (il fun j hj => hp j (by omega)) (ir fun j hj => hp j hj)
    · rw [hp j (by omega), hpm]; exact hl j a b
    · rw [hp j b, hpm]; exact hr j a b
end Go.Proofs.Qxb6601797a
