/- treap's state, in plain words: the places as a function, one cell turned at a time. -/
import Derived.Test.Qxb6601797aPlain
import Derived.Test.Qxb6601797aPrem
import Derived.Laws.AppendOwn
namespace Go.Proofs.Qxb6601797a
open Go.RowKit

def upd (G : Nat → Nat → Int) (k c : Nat) (v : Int) : Nat → Nat → Int := fun i d => if i = k ∧ d = c then v else G i d

/-- what one round of treap makes of the places -/
def pushG (ν : Nat → Nat) (G : Nat → Nat → Int) (i : Nat) (st : List Nat) (c : Int) : Nat → Nat → Int :=
  match st with
  | [] => if c = 0 then upd G (ν i) 0 c else upd (upd G (ν i) 0 c) c.toNat 2 (ν i)
  | e :: _ => upd (upd (if c = 0 then upd G (ν i) 0 c else upd (upd G (ν i) 0 c) c.toNat 2 (ν i)) (ν e) 1 (ν i)) (ν i) 2 (ν e)

/-- treap's state before item i -/
structure TS (p : Nat → Int) (ν : Nat → Nat) (G0 G : Nat → Nat → Int) (nn i : Nat) (st : List Nat) : Prop where
  sp : Sp p ν G st
  pos : bas st = i
  right : ∀ e st', st = e :: st' → G (ν e) 1 = 0
  new : ∀ m, i ≤ m → m < nn → ∀ c, c < 3 → G (ν m) c = 0
  rest : ∀ k, (∀ m, m < nn → ν m ≠ k) → ∀ c, G k c = G0 k c

theorem TS.push {p : Nat → Int} {ν : Nat → Nat} {G0 G : Nat → Nat → Int} {nn i : Nat} {st0 st : List Nat} {c : Int} (h : TS p ν G0 G nn i st0) (hP : Pop p ν G i st c) (hi : i < nn) (hpos : ∀ m, m < nn → 0 < ν m) (hinj : ∀ a b, a < nn → b < nn → ν a = ν b → a = b)
    (hp : ∀ e st', st = e :: st' → p i ≤ p e) : TS p ν G0 (pushG ν G i st c) nn (i + 1) (i :: st) := by
  have hle := hP.tree.le
  have hg : ∀ d, d < 3 → G (ν i) d = 0 := fun d hd => h.new i (Nat.le_refl _) hi d hd
  have hne : ∀ m, m < nn → m ≠ i → ν m ≠ ν i := fun m hm hn e => hn (hinj m i hm hi e)
  have hroot : c = 0 ∨ ∃ m, bas st ≤ m ∧ m < i ∧ c = (ν m : Int) := hP.tree.root
  cases st with
  | nil =>
    rcases hroot with rfl | ⟨m', hb', hm', rfl⟩
    · have ev : pushG ν G i [] 0 = upd G (ν i) 0 0 := rfl
      rw [ev]
      refine ⟨hP.push hi hpos hinj hp ?_ ?_ ?_ ?_ ?_ ?_ ?_, rfl, ?_, ?_, ?_⟩
      · simp [upd]
      · simp [upd, top, hg 2 (by omega)]
      · intro m hm hn; simp [upd, hne m hm hn]
      · intro m hm hn _; simp [upd]
      · intro e st' he; cases he
      · intro m hm hn _; simp [upd]
      · intro m hm hn he; have := hpos m hm; omega
      · intro e st' he; cases he; simp [upd, hg 1 (by omega)]
      · intro m hm hm2 c hc; simp [upd, hne m hm2 (by omega), h.new m (by omega) hm2 c hc]
      · intro k hk c; simp [upd, Ne.symm (hk i hi), h.rest k hk c]
    · have hm0 := hpos m' (by omega)
      have hmi := hne m' (by omega) (by omega)
      have ev : pushG ν G i [] (ν m' : Int) = upd (upd G (ν i) 0 (ν m')) (ν m') 2 (ν i) := by
        simp only [pushG, Int.toNat_natCast]
        rw [if_neg (by omega)]
      rw [ev]
      refine ⟨hP.push hi hpos hinj hp ?_ ?_ ?_ ?_ ?_ ?_ ?_, rfl, ?_, ?_, ?_⟩
      · simp [upd]
      · simp [upd, top, hg 2 (by omega), Ne.symm hmi]
      · intro m hm hn; simp [upd, hne m hm hn]
      · intro m hm hn _; simp [upd]
      · intro e st' he; cases he
      · intro m hm hn hc
        have q : ν m ≠ ν m' := fun e => hc (by rw [e])
        simp [upd, q]
      · intro m hm hn he; have : ν m = ν m' := by exact_mod_cast he
        simp [upd, this]
      · intro e st' he; cases he; simp [upd, hg 1 (by omega)]
      · intro m hm hm2 c hc
        have : ν m ≠ ν m' := fun e => by have := hinj m m' hm2 (by omega) e; omega
        simp [upd, hne m hm2 (by omega), this, h.new m (by omega) hm2 c hc]
      · intro k hk c; simp [upd, Ne.symm (hk i hi), Ne.symm (hk m' (by omega)), h.rest k hk c]
  | cons e st =>
    have hei : e + 1 ≤ i := hle
    have hee := hne e (by omega) (by omega)
    rcases hroot with rfl | ⟨m', hb', hm', rfl⟩
    · have ev : pushG ν G i (e :: st) 0 = upd (upd (upd G (ν i) 0 0) (ν e) 1 (ν i)) (ν i) 2 (ν e) := rfl
      rw [ev]
      refine ⟨hP.push hi hpos hinj hp ?_ ?_ ?_ ?_ ?_ ?_ ?_, rfl, ?_, ?_, ?_⟩
      · simp [upd]
      · simp [upd, top]
      · intro m hm hn; simp [upd, hne m hm hn]
      · intro m hm hn hd
        have : ν m ≠ ν e := fun q => hd e st rfl (hinj m e hm (by omega) q)
        simp [upd, this]
      · intro e' st' he; cases he; simp [upd]
      · intro m hm hn _; simp [upd, hne m hm hn]
      · intro m hm hn he; have := hpos m hm; omega
      · intro e' st' he; cases he; simp [upd, hg 1 (by omega), Ne.symm hee]
      · intro m hm hm2 c hc
        have : ν m ≠ ν e := fun q => by have := hinj m e hm2 (by omega) q; omega
        simp [upd, hne m hm2 (by omega), this, h.new m (by omega) hm2 c hc]
      · intro k hk c; simp [upd, Ne.symm (hk i hi), Ne.symm (hk e (by omega)), h.rest k hk c]
    · have hm0 := hpos m' (by omega)
      have hmi := hne m' (by omega) (by omega)
      have ev : pushG ν G i (e :: st) (ν m' : Int) = upd (upd (upd (upd G (ν i) 0 (ν m')) (ν m') 2 (ν i)) (ν e) 1 (ν i)) (ν i) 2 (ν e) := by
        simp only [pushG, Int.toNat_natCast]
        rw [if_neg (by omega)]
      rw [ev]
      refine ⟨hP.push hi hpos hinj hp ?_ ?_ ?_ ?_ ?_ ?_ ?_, rfl, ?_, ?_, ?_⟩
      · simp [upd]
      · simp [upd, top]
      · intro m hm hn; simp [upd, hne m hm hn]
      · intro m hm hn hd
        have : ν m ≠ ν e := fun q => hd e st rfl (hinj m e hm (by omega) q)
        simp [upd, this]
      · intro e' st' he; cases he; simp [upd]
      · intro m hm hn hc
        have q : ν m ≠ ν m' := fun e => hc (by rw [e])
        simp [upd, hne m hm hn, q]
      · intro m hm hn he; have : ν m = ν m' := by exact_mod_cast he
        simp [upd, this, hmi]
      · intro e' st' he; cases he; simp [upd, hg 1 (by omega), Ne.symm hee]
      · intro m hm hm2 c hc
        have q1 : ν m ≠ ν e := fun q => by have := hinj m e hm2 (by omega) q; omega
        have q2 : ν m ≠ ν m' := fun q => by have := hinj m m' hm2 (by omega) q; omega
        simp [upd, hne m hm2 (by omega), q1, q2, h.new m (by omega) hm2 c hc]
      · intro k hk c; simp [upd, Ne.symm (hk i hi), Ne.symm (hk e (by omega)), Ne.symm (hk m' (by omega)), h.rest k hk c]

/-- the pieces, their places in tree τ told by G -/
def setG (X : Nat → Pc) (τ : Nat) (G : Nat → Nat → Int) (i : Nat) : Pc := { X i with pl := fun c => if c / 3 = τ then G i (c % 3) else (X i).pl c }

theorem cell_pl (x : Pc) {q : Nat} (hq : q < 6) : x.cell (23 + q) = .int .i32 (x.pl q) := by
  have : q = 0 ∨ q = 1 ∨ q = 2 ∨ q = 3 ∨ q = 4 ∨ q = 5 := by omega
  rcases this with rfl | rfl | rfl | rfl | rfl | rfl <;> rfl
theorem cell_rest (X : Nat → Pc) (τ : Nat) (G : Nat → Nat → Int) (i f : Nat) (hf : f < 23 ∨ (29 ≤ f ∧ f < 31)) : (setG X τ G i).cell f = (X i).cell f := by
  have : f = 0 ∨ f = 1 ∨ f = 2 ∨ f = 3 ∨ f = 4 ∨ f = 5 ∨ f = 6 ∨ f = 7 ∨ f = 8 ∨ f = 9 ∨ f = 10 ∨ f = 11 ∨ f = 12 ∨ f = 13 ∨ f = 14 ∨ f = 15 ∨ f = 16 ∨ f = 17 ∨ f = 18 ∨ f = 19 ∨ f = 20 ∨ f = 21 ∨ f = 22 ∨ f = 29 ∨ f = 30 := by omega
  rcases this with rfl | rfl | rfl | rfl | rfl | rfl | rfl | rfl | rfl | rfl | rfl | rfl | rfl | rfl | rfl | rfl | rfl | rfl | rfl | rfl | rfl | rfl | rfl | rfl | rfl <;> rfl
theorem setG_pl (X : Nat → Pc) {τ : Nat} (G : Nat → Nat → Int) (i : Nat) {c : Nat} (hc : c < 3) : (setG X τ G i).pl (τ * 3 + c) = G i c := by
  show (if (τ * 3 + c) / 3 = τ then G i ((τ * 3 + c) % 3) else _) = _
  rw [if_pos (by omega), show (τ * 3 + c) % 3 = c by omega]
theorem setG_other (X : Nat → Pc) {τ : Nat} (G : Nat → Nat → Int) (i : Nat) {q : Nat} (hq : q / 3 ≠ τ) : (setG X τ G i).pl q = (X i).pl q := by
  show (if q / 3 = τ then _ else _) = _
  rw [if_neg hq]
theorem setG_self (X : Nat → Pc) (τ : Nat) : setG X τ (fun i c => (X i).pl (τ * 3 + c)) = X := by
  funext i
  have : (fun c => if c / 3 = τ then (X i).pl (τ * 3 + c % 3) else (X i).pl c) = (X i).pl := by
    funext c
    split
    · rename_i h
      rw [show τ * 3 + c % 3 = c by omega]
    · rfl
  unfold setG
  rw [this]

/-- one place's number is turned -/
theorem rowIs_upd {w : World} {g n : Nat} {t : TypeId} {X : Nat → Pc} {τ : Nat} {G : Nat → Nat → Int} {k c : Nat} (h : w.rowIs g t (n * 31) (pcs (setG X τ G))) (hτ : τ < 2) (hc : c < 3) (v : Int) :
    (w.setCell ⟨g, k * 31 + 23 + τ * 3 + c, none⟩ (.int .i32 v)).rowIs g t (n * 31) (pcs (setG X τ (upd G k c v))) := by
  refine (h.set (k * 31 + 23 + τ * 3 + c) _).congr fun j hj => ?_
  obtain ⟨i, f, hf, rfl⟩ : ∃ i f, f < 31 ∧ j = i * 31 + f := ⟨j / 31, j % 31, by omega, by omega⟩
  rw [pcs_at _ i f hf, pcs_at _ i f hf]
  by_cases hr : f < 23 ∨ (29 ≤ f ∧ f < 31)
  · rw [cell_rest X τ _ i f hr, cell_rest X τ _ i f hr, if_neg (by rcases Nat.lt_trichotomy i k with q | q | q <;> omega)]
  · obtain ⟨q, rfl⟩ : ∃ q, f = 23 + q := ⟨f - 23, by omega⟩
    rw [cell_pl _ (by omega), cell_pl _ (by omega)]
    by_cases hq : q / 3 = τ
    · obtain ⟨d, hd, rfl⟩ : ∃ d, d < 3 ∧ q = τ * 3 + d := ⟨q % 3, by omega, by omega⟩
      rw [setG_pl X _ i hd, setG_pl X _ i hd]
      by_cases he : i = k ∧ d = c
      · obtain ⟨rfl, rfl⟩ := he
        rw [if_pos (by omega)]
        simp [upd]
      · rw [if_neg (by omega)]
        simp [upd, he]
    · rw [setG_other X _ i hq, setG_other X _ i hq, if_neg (by rcases Nat.lt_trichotomy i k with s | s | s <;> omega)]

/-- every block but g is as it was -/
structure Fr (g : Nat) (w W : World) : Prop where
  below : Below g w W
  keep : ∀ b, b < w.heap.size → b ≠ g → W.heap[b]? = w.heap[b]?
theorem Fr.refl (g : Nat) (w : World) : Fr g w w := ⟨Below.refl _ _, fun _ _ _ => rfl⟩
theorem Fr.drewN {g : Nat} {w W : World} (h : Fr g w W) (n : Nat) : Fr g w (W.drewN n) := ⟨below_drewN h.below n, h.keep⟩
theorem Fr.set {g : Nat} {w W : World} (h : Fr g w W) (o : Nat) (v : Value) : Fr g w (W.setCell ⟨g, o, none⟩ v) :=
  ⟨h.below.setCell (p := ⟨g, o, none⟩) (Nat.le_refl _) v, fun b hb hne => (Below.heap_setCell _ _ _ _ hne).trans (h.keep b hb hne)⟩
theorem Fr.alloc {g : Nat} {w W : World} (h : Fr g w W) (hg : g < w.heap.size) (o : Obj) : Fr g w (W.alloc o) :=
  ⟨h.below.alloc (by have := h.below.size; omega) o, fun b hb hne => (Below.heap_alloc _ _ _ (Nat.lt_of_lt_of_le hb h.below.size)).trans (h.keep b hb hne)⟩
theorem Fr.grown {g : Nat} {w W W' : World} {row : Option Nat} (h : Fr g w W) (hg : g < w.heap.size) (hw : W.grownBy W' row) (hr : ∀ k, row = some k → w.heap.size ≤ k) : Fr g w W' :=
  ⟨h.below.grown hw (by have := h.below.size; omega) (fun k hk => by have := hr k hk; omega), fun b hb hne => (hw.block b (Nat.lt_of_lt_of_le hb h.below.size) (fun e => by have := hr b e.symm; omega)).trans (h.keep b hb hne)⟩

/-- the edge, as a slice's cells -/
def stv (ν : Nat → Nat) (st : List Nat) : List Value := st.reverse.map fun e => Value.int .i32 (ν e : Int)
theorem stv_length (ν : Nat → Nat) (st : List Nat) : (stv ν st).length = st.length := by simp [stv]
theorem stv_cons (ν : Nat → Nat) (e : Nat) (st : List Nat) : stv ν (e :: st) = stv ν st ++ [Value.int .i32 (ν e : Int)] := by simp [stv]
theorem stv_top (ν : Nat → Nat) (e : Nat) (st : List Nat) : (stv ν (e :: st))[st.length]? = some (Value.int .i32 (ν e : Int)) := by
  rw [stv_cons, List.getElem?_append_right (by rw [stv_length]; exact Nat.le_refl _), stv_length]
  simp
theorem stv_bot (ν : Nat → Nat) : ∀ (st : List Nat) (e : Nat), (stv ν (e :: st))[0]? = some (Value.int .i32 (ν (bot (e :: st)) : Int))
  | [], e => rfl
  | e' :: st, e => by
    rw [stv_cons, List.getElem?_append_left (by rw [stv_length]; simp)]
    exact stv_bot ν st e'

theorem owns_some {w : World} {base : Nat} {t : TypeId} {v : Value} {n : Nat} {xs : List Value} (h : w.ownsRow base t 1 v (n + 1) xs) : ∃ g cap, v = .slice (some ⟨g, 0, none⟩) (n + 1) cap ∧ base ≤ g ∧ g < w.heap.size ∧ n + 1 ≤ cap ∧ ∀ j, j < n + 1 → w.cell? ⟨g, j, none⟩ = xs[j]? := by
  obtain ⟨_, h2⟩ := h
  rcases h2 with ⟨_, h0⟩ | ⟨g, cap, cur, hv, hg, hh, hn, hcap, hsz, htake⟩
  · omega
  · refine ⟨g, cap, hv, hg, ?_, hn, fun j hj => ?_⟩
    · rcases Nat.lt_or_ge g w.heap.size with q | q
      · exact q
      · rw [Array.getElem?_eq_none q] at hh; cases hh
    · rw [← htake, List.getElem?_take_of_lt (by omega)]
      simp [World.cell?, hh]
theorem owns_zero {w : World} {base : Nat} {t : TypeId} {v : Value} {xs : List Value} (h : w.ownsRow base t 1 v 0 xs) : ∃ a c, v = .slice a 0 c := by
  obtain ⟨_, h2⟩ := h
  rcases h2 with ⟨h0, _⟩ | ⟨g, cap, cur, hv, hg, hh, hn, hcap, hsz, htake⟩
  · exact ⟨_, _, h0⟩
  · exact ⟨_, _, hv⟩
theorem owns_block {w : World} {base : Nat} {t : TypeId} {v : Value} {n : Nat} {xs : List Value} (h : w.ownsRow base t 1 v n xs) : ∀ k, v.ownBlock = some k → base ≤ k := by
  obtain ⟨_, h2⟩ := h
  rcases h2 with ⟨h0, _⟩ | ⟨g, cap, cur, hv, hg, hh, hn, hcap, hsz, htake⟩
  · intro k hk; rw [h0] at hk; cases hk
  · intro k hk; rw [hv] at hk; cases hk; exact hg
end Go.Proofs.Qxb6601797a
