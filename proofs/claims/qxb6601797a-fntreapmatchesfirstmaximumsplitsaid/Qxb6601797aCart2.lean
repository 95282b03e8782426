/- Words for the law FnTreapMatchesFirstMaximumSplit. -/
import Derived.Test.Qxb6601797aChain
import Derived.Test.Qxb6601797aCart
import Derived.Test.Qxb6601797aSame
namespace Go.Proofs.Qxb6601797a
open Go.RowKit

set_option maxRecDepth 100000 in
theorem cart_zero (v0 v1 v5 : Value) (par : Int) (w : World) : Calls Try.prog 22 #[v0, v1, .int .i64 0, .int .i64 0, .int .i32 par, v5] w fun e w' => RetZero w e w' := by
  go_enter Try.func22, Try.ntmps22
  go_wp2
  go_ret
  exact ⟨rfl, rfl⟩

theorem cart_law (a0 : Addr) (a2 : Option Addr) (ge n nn c c2 : Nat) (X : Nat → Pc) (p : Nat → Int) (ν : Nat → Nat) (E : Nat → Nat → Int) (w : World) (hn : n ≤ 65536) (hnn : nn ≤ 65536) (hltn : ∀ m, m < nn → ν m < n) (hinj : ∀ a b, a < nn → b < nn → ν a = ν b → a = b)
    (hp : ∀ m, m < nn → p m = (X (ν m)).pri) (hD : RowN w ge (some a0) (n * 31) (pcs X)) (hN : RowN w ge a2 nn (fun i => .int .i32 (ν i : Int))) (hR : w.rowIs ge 66 (n * 3) (ecs E)) :
    Calls Try.prog 22 #[.slice (some a0) n c, .slice a2 nn c2, .int .i64 0, .int .i64 (nn : Int), .int .i32 0, .slice (some ⟨ge, 0, none⟩) n n] w fun e w' => RetCart w ge n p ν E 0 nn 0 e w' := by
  by_cases h0 : nn = 0
  · subst h0
    refine (cart_zero _ _ _ 0 w).mono ?_
    rintro e w' ⟨rfl, rfl⟩
    exact ⟨E, 0, rfl, Fr.refl _ _, hR, .nil _ _, fun _ _ _ => rfl⟩
  · obtain ⟨b, off, hab, hc⟩ := hD
    obtain ⟨b2, o2, hab2, hc2⟩ := hN
    have hn0 : 0 < n := by have := hltn 0 (by omega); omega
    obtain ⟨e1, hb⟩ := hab (by omega)
    obtain rfl := Option.some.inj e1
    obtain ⟨rfl, hb2⟩ := hab2 (by omega)
    have h := cart_any b off b2 o2 ge n nn c c2 p ν hn hnn hb hb2 hltn hinj nn 0 nn 0 E w (by omega) (by omega) (Nat.le_refl _) ⟨fun m hm => by rw [Row.pc hc (hltn m hm) 29 (by omega), hp m hm]; rfl, hc2⟩ hR
    exact h

theorem Part.threeN {w : World} {b : Nat} {t : TypeId} {N j : Nat} {f : Nat → Value} (h : Part w b t N (j * 3) f) (vs : List Value) (e : vs = [f (j * 3), f (j * 3 + 1), f (j * 3 + 2)]) : Part (w.setCells b (j * 3) vs) b t N ((j + 1) * 3) f := by
  obtain ⟨F, h1, h2⟩ := h
  have hl : vs.length = 3 := by rw [e]; rfl
  refine ⟨_, setCells_row vs h1, fun i hi => ?_⟩
  by_cases hlt : i < j * 3
  · rw [if_neg (by omega)]
    exact h2 i hlt
  · obtain ⟨c, rfl⟩ : ∃ c, i = j * 3 + c := ⟨i - j * 3, by omega⟩
    rw [if_pos (by omega), e, Nat.add_sub_cancel_left]
    match c, (by omega : c < 3) with
    | 0, _ => rfl
    | 1, _ => rfl
    | 2, _ => rfl
theorem Part.full {w : World} {b : Nat} {t : TypeId} {N : Nat} {f : Nat → Value} (h : Part w b t N N f) : w.rowIs b t N f := by
  obtain ⟨F, h1, h2⟩ := h
  exact h1.congr h2
theorem Try.size66t : (Try.prog.info? 66).map (fun i => (i.zero.isSome, i.size, decide (i.bytes ≤ 1024))) = some (true, 3, true) := by kernel_rfl
theorem Try.size70' : (Try.prog.info? 70).map (·.size) = some 31 := by kernel_rfl

/-- three cells in a row -/
theorem range3 {w : World} {b o : Nat} {x y z : Value} (h0 : w.cell? ⟨b, o, none⟩ = some x) (h1 : w.cell? ⟨b, o + 1, none⟩ = some y) (h2 : w.cell? ⟨b, o + 2, none⟩ = some z) : w.rangeAt b o [x, y, z] := fun j v hv => by
  match j, hv with
  | 0, hv => cases hv; exact h0
  | 1, hv => cases hv; exact h1
  | 2, hv => cases hv; exact h2
  | j + 3, hv => simp at hv
/-- a whole piece -/
theorem range31 {w : World} {b o : Nat} {x : Pc} (h : ∀ f, f < 31 → w.cell? ⟨b, o + f, none⟩ = some (x.cell f)) : w.rangeAt b o x.list := fun j v hj => by
  have hj31 : j < 31 := by
    rcases Nat.lt_or_ge j 31 with h | h
    · exact h
    · rw [List.getElem?_eq_none (by rw [Pc.list_length]; exact h)] at hj; cases hj
  rw [Pc.list_get x j hj31] at hj
  cases hj
  exact h j hj31
/-- the places of tree τ of a piece -/
theorem pl_range {w : World} {b o τ : Nat} {x : Pc} (hτ : τ < 2) (h : ∀ f, f < 31 → w.cell? ⟨b, o + f, none⟩ = some (x.cell f)) : w.rangeAt b (o + 23 + τ * 3) [Value.int .i32 (x.pl (τ * 3)), .int .i32 (x.pl (τ * 3 + 1)), .int .i32 (x.pl (τ * 3 + 2))] := by
  have g : ∀ q, q < 6 → w.cell? ⟨b, o + (23 + q), none⟩ = some (.int .i32 (x.pl q)) := fun q hq => (h (23 + q) (by omega)).trans (by rw [cell_pl x hq])
  refine range3 ?_ ?_ ?_
  · have := g (τ * 3) (by omega)
    rwa [show o + (23 + τ * 3) = o + 23 + τ * 3 by omega] at this
  · have := g (τ * 3 + 1) (by omega)
    rwa [show o + (23 + (τ * 3 + 1)) = o + 23 + τ * 3 + 1 by omega] at this
  · have := g (τ * 3 + 2) (by omega)
    rwa [show o + (23 + (τ * 3 + 2)) = o + 23 + τ * 3 + 2 by omega] at this

theorem Like.of {x x1 x2 x3 : Pc} {X2 : Nat → Pc} {τ : Nat} {G : Nat → Nat → Int} {i : Nat} (h1 : Alike x x1) (h2 : Alike x1 x2) (e : X2 i = x2) (h3 : Alike (setG X2 τ G i) x3) : Like x x3 := by
  subst e
  exact ⟨fun j hj => (h3.site j hj).trans ((h2.site j hj).trans (h1.site j hj)), h3.seq.trans (h2.seq.trans h1.seq), h3.k.trans (h2.k.trans h1.k), h3.tn.trans (h2.tn.trans h1.tn), h3.tnil.trans (h2.tnil.trans h1.tnil),
    h3.clock.trans (h2.clock.trans h1.clock), h3.del.trans (h2.del.trans h1.del), h3.mn.trans (h2.mn.trans h1.mn), h3.mnil.trans (h2.mnil.trans h1.mnil), h3.next.trans (h2.next.trans h1.next), h3.pri.trans (h2.pri.trans h1.pri), h3.size.trans (h2.size.trans h1.size)⟩
end Go.Proofs.Qxb6601797a
