/- cartesian: the tree of the first maxima is one; the walk of the recursive split. -/
import Derived.Test.Qxb6601797aPlain3
import Derived.Test.Qxb6601797aTreap
import Derived.Test.Qxb6601797aNeq
namespace Go.Proofs.Qxb6601797a
open Go.RowKit

theorem CT.unique {p : Nat → Int} {ν : Nat → Nat} {G E : Nat → Nat → Int} {lo hi : Nat} {par r : Int} (h : CT p ν G lo hi par r) : ∀ {r' : Int}, CT p ν E lo hi par r' → r = r' ∧ ∀ m, lo ≤ m → m < hi → ∀ c, c < 3 → G (ν m) c = E (ν m) c := by
  induction h with
  | nil lo par =>
    intro r' h'
    cases h' with
    | nil => exact ⟨rfl, fun m a b => by omega⟩
    | node h1 h2 => omega
  | @node lo m hi par l r h1 h2 hl hr gl gr gq tl tr il ir =>
    intro r' h'
    cases h' with
    | nil => omega
    | @node _ m' _ _ l' r'' a1 a2 hl' hr' gl' gr' gq' tl' tr' =>
      have hm : m = m' := by
        rcases Nat.lt_trichotomy m m' with q | q | q
        · have := hl' m h1 q
          have := hr m' q a2
          omega
        · exact q
        · have := hl m' a1 q
          have := hr' m q h2
          omega
      subst hm
      obtain ⟨e1, f1⟩ := il tl'
      obtain ⟨e2, f2⟩ := ir tr'
      refine ⟨rfl, fun j b1 b2 c hc => ?_⟩
      rcases Nat.lt_trichotomy j m with q | q | q
      · exact f1 j b1 q c hc
      · subst q
        match c, hc with
        | 0, _ => rw [gl, gl']; exact e1
        | 1, _ => rw [gr, gr']; exact e2
        | 2, _ => rw [gq, gq']
      · exact f2 j (by omega) b2 c hc

/-- a row of places -/
def ecs (E : Nat → Nat → Int) (j : Nat) : Value := .int .i32 (E (j / 3) (j % 3))
theorem ecs_at (E : Nat → Nat → Int) (k : Nat) {c : Nat} (hc : c < 3) : ecs E (k * 3 + c) = .int .i32 (E k c) := by
  unfold ecs
  rw [show (k * 3 + c) / 3 = k by omega, show (k * 3 + c) % 3 = c by omega]
def upd3 (E : Nat → Nat → Int) (k : Nat) (a b c : Int) : Nat → Nat → Int := fun i d => if i = k then (if d = 0 then a else if d = 1 then b else if d = 2 then c else E i d) else E i d
theorem rowIs_upd3 {w : World} {g n : Nat} {t : TypeId} {E : Nat → Nat → Int} {k : Nat} {a b c : Int} (h : w.rowIs g t (n * 3) (ecs E)) :
    (w.setCells g (k * 3) [Value.int .i32 a, .int .i32 b, .int .i32 c]).rowIs g t (n * 3) (ecs (upd3 E k a b c)) := by
  refine (setCells_row _ h).congr fun j hj => ?_
  obtain ⟨i, d, hd, rfl⟩ : ∃ i d, d < 3 ∧ j = i * 3 + d := ⟨j / 3, j % 3, by omega, by omega⟩
  rw [ecs_at _ i hd, ecs_at _ i hd]
  by_cases e : i = k
  · subst e
    rw [if_pos ⟨by omega, by simp; omega⟩, Nat.add_sub_cancel_left]
    match d, hd with
    | 0, _ => simp [upd3]
    | 1, _ => simp [upd3]
    | 2, _ => simp [upd3]
  · rw [if_neg (by simp; omega)]
    simp [upd3, e]

/-- what cartesian reads -/
structure CW (w : World) (b off b2 o2 nn : Nat) (p : Nat → Int) (ν : Nat → Nat) : Prop where
  px : ∀ m, m < nn → w.cell? ⟨b, off + ν m * 31 + 29, none⟩ = some (.int .u64 (p m))
  pn : ∀ m, m < nn → w.cell? ⟨b2, o2 + m, none⟩ = some (.int .i32 (ν m : Int))
theorem CW.fr {w w' : World} {b off b2 o2 nn ge : Nat} {p : Nat → Int} {ν : Nat → Nat} (h : CW w b off b2 o2 nn p ν) (hF : Fr ge w w') (hb : b ≠ ge) (hb2 : b2 ≠ ge) : CW w' b off b2 o2 nn p ν :=
  ⟨fun m hm => (World.cell?_of_block (a := ⟨b, off + ν m * 31 + 29, none⟩) (hF.keep b (World.block_lt_of_cell? _ _ (h.px m hm)) hb)).trans (h.px m hm),
   fun m hm => (World.cell?_of_block (a := ⟨b2, o2 + m, none⟩) (hF.keep b2 (World.block_lt_of_cell? _ _ (h.pn m hm)) hb2)).trans (h.pn m hm)⟩
theorem Fr.trans {g : Nat} {a b c : World} (h : Fr g a b) (k : Fr g b c) : Fr g a c :=
  ⟨h.below.trans k.below, fun i hi hne => (k.keep i (Nat.lt_of_lt_of_le hi h.below.size) hne).trans (h.keep i hi hne)⟩
theorem Fr.setCells {g : Nat} {w W : World} (h : Fr g w W) (o : Nat) (vs : List Value) : Fr g w (W.setCells g o vs) :=
  ⟨setCells_below (Nat.le_refl _) _ h.below, fun b hb hne => (setCells_other hne vs).trans (h.keep b hb hne)⟩
theorem Fr.of_drewN {g n : Nat} {w W : World} (h : Fr g (w.drewN n) W) : Fr g w W := ⟨(below_drewN (Below.refl _ _) n).trans h.below, h.keep⟩

def RetCart (w : World) (ge n : Nat) (p : Nat → Int) (ν : Nat → Nat) (E : Nat → Nat → Int) (lo hi : Nat) (par : Int) (e : Ending) (w' : World) : Prop :=
  ∃ (E' : Nat → Nat → Int) (r : Int), e = .returned (.int .i32 r) ∧ Fr ge w w' ∧ w'.rowIs ge 66 (n * 3) (ecs E') ∧ CT p ν E' lo hi par r ∧ ∀ k, (∀ m, lo ≤ m → m < hi → ν m ≠ k) → ∀ c, E' k c = E k c

theorem Try.size66 : (Try.prog.info? 66).map (·.size) = some 3 := by kernel_rfl
theorem built66 (a b c : Int) : Try.prog.built 66 [(0, .int .i32 a), (1, .int .i32 b), (2, .int .i32 c)] = some [Value.int .i32 a, .int .i32 b, .int .i32 c].toArray := by kernel_rfl

/-- the tree put together -/
theorem cart_node {p : Nat → Int} {ν : Nat → Nat} {E E1 E2 : Nat → Nat → Int} {lo m hi nn : Nat} {par r1 r2 : Int} (h1 : lo ≤ m) (h2 : m < hi) (hn : hi ≤ nn) (hinj : ∀ a b, a < nn → b < nn → ν a = ν b → a = b)
    (hl : ∀ j, lo ≤ j → j < m → p j < p m) (hr : ∀ j, m < j → j < hi → p j ≤ p m) (t1 : CT p ν E1 lo m (ν m) r1) (k1 : ∀ k, (∀ j, lo ≤ j → j < m → ν j ≠ k) → ∀ c, E1 k c = E k c)
    (t2 : CT p ν E2 (m + 1) hi (ν m) r2) (k2 : ∀ k, (∀ j, m + 1 ≤ j → j < hi → ν j ≠ k) → ∀ c, E2 k c = E1 k c) :
    CT p ν (upd3 E2 (ν m) r1 r2 par) lo hi par (ν m) ∧ ∀ k, (∀ j, lo ≤ j → j < hi → ν j ≠ k) → ∀ c, upd3 E2 (ν m) r1 r2 par k c = E k c := by
  constructor
  · refine .node h1 h2 hl hr (by simp [upd3]) (by simp [upd3]) (by simp [upd3]) (t1.congr fun j a b c hc => ?_) (t2.congr fun j a b c hc => ?_)
    · have hne : ν j ≠ ν m := fun e => by have := hinj j m (by omega) (by omega) e; omega
      rw [← k2 (ν j) (fun i x y e => by have := hinj i j (by omega) (by omega) e; omega) c]
      simp [upd3, hne]
    · have hne : ν j ≠ ν m := fun e => by have := hinj j m (by omega) (by omega) e; omega
      simp [upd3, hne]
  · intro k hk c
    have hne : k ≠ ν m := fun e => hk m h1 h2 e.symm
    rw [← k1 k (fun j x y => hk j x (by omega)) c, ← k2 k (fun j x y => hk j (by omega) y) c]
    simp [upd3, hne]

set_option maxHeartbeats 4000000 in
set_option maxRecDepth 100000 in
theorem cart_any (b off b2 o2 ge n nn c c2 : Nat) (p : Nat → Int) (ν : Nat → Nat) (_hn : n ≤ 65536) (hnn : nn ≤ 65536) (hb : b ≠ ge) (hb2 : b2 ≠ ge) (hltn : ∀ m, m < nn → ν m < n) (hinj : ∀ a b, a < nn → b < nn → ν a = ν b → a = b) :
    ∀ (d lo hi : Nat) (par : Int) (E : Nat → Nat → Int) (w : World), hi - lo ≤ d → lo ≤ hi → hi ≤ nn → CW w b off b2 o2 nn p ν → w.rowIs ge 66 (n * 3) (ecs E) →
      Calls Try.prog 22 #[.slice (some ⟨b, off, none⟩) n c, .slice (some ⟨b2, o2, none⟩) nn c2, .int .i64 (lo : Int), .int .i64 (hi : Int), .int .i32 par, .slice (some ⟨ge, 0, none⟩) n n] w fun e w' => RetCart w ge n p ν E lo hi par e w' := by
  intro d
  induction d with
  | zero =>
    intro lo hi par E w hd hlh hhn hW hR
    obtain rfl : lo = hi := by omega
    clear hW hltn hinj
    go_enter Try.func22, Try.ntmps22
    go_wp2
    go_ret
    exact ⟨E, 0, rfl, Fr.refl _ _, hR, .nil _ _, fun _ _ _ => rfl⟩
  | succ d ih =>
    intro lo hi par E w hd hlh hhn hW hR
    have Hih : Hid _ := ih
    have Hltn : Hid (∀ m, m < nn → ν m < n) := hltn
    have Hinj : Hid (∀ a b, a < nn → b < nn → ν a = ν b → a = b) := hinj
    have HW : Hid (CW w b off b2 o2 nn p ν) := hW
    have HR : Hid (w.rowIs ge 66 (n * 3) (ecs E)) := hR
    clear ih hltn hinj hW hR
    by_cases hlo : lo < hi
    case neg =>
      as_aux_lemma =>
        obtain rfl : lo = hi := by omega
        go_enter Try.func22, Try.ntmps22
        go_wp2
        go_ret
        exact ⟨E, 0, rfl, Fr.refl _ _, HR, .nil _ _, fun _ _ _ => rfl⟩
    go_enter Try.func22, Try.ntmps22
    go_wp2
    have hdn : decide (hi ≤ lo) = false := decide_eq_false (by omega)
    rw [hdn]
    clear hdn
    go_loopg [13, 14] (hi - (lo + 1)) (fun q s13 s14 wr => ∃ m i : Nat, lo ≤ m ∧ m < i ∧ i ≤ hi ∧ q = hi - i ∧ s13 = .int .i64 m ∧ s14 = .int .i64 i ∧ (∃ z, wr = w.drewN z) ∧ Hid (∀ j, lo ≤ j → j < m → p j < p m) ∧ Hid (∀ j, m < j → j < i → p j ≤ p m))
    case atStart => exact ⟨lo, lo + 1, Nat.le_refl _, by omega, by omega, rfl, rfl, by go_num, ⟨0, rfl⟩, fun j a b => by omega, fun j a b => by omega⟩
    case round =>
      obtain ⟨m, i, hm1, hm2, hm3, rfl, rfl, rfl, ⟨z, rfl⟩, Hl, Hr⟩ := hrel
      by_cases hlt : i < hi
      · have e1 := HW.pn i (by omega)
        have e2 := HW.pn m (by omega)
        have e3 := HW.px i (by omega)
        have e4 := HW.px m (by omega)
        have q1 := Hltn i (by omega)
        have q2 := Hltn m (by omega)
        have q3 : ((ν i : Nat) : Int) < (n : Int) := by omega
        have q4 : ((ν m : Nat) : Int) < (n : Int) := by omega
        by_cases hp : p m < p i
        · as_aux_lemma =>
            have Hl' : Hid (∀ j, lo ≤ j → j < i → p j < p i) := by
              show ∀ j, lo ≤ j → j < i → p j < p i
              intro j a b
              rcases Nat.lt_trichotomy j m with q | q | q
              · have := Hl j a q; omega
              · subst q; exact hp
              · have := Hr j q b; omega
            have Hr' : Hid (∀ j, i < j → j < i + 1 → p j ≤ p i) := fun j a b => by omega
            clear Hl Hr
            go_wp2
            go_quiet (fail)
            go_wp2
            go_roundg (hi - (i + 1))
            case measure => go_light; omega
            case rel => go_light; exact ⟨i, i + 1, by omega, by omega, by omega, rfl, rfl, by go_num, ⟨_, rfl⟩, Hl', Hr'⟩
        · as_aux_lemma =>
            have Hr' : Hid (∀ j, m < j → j < i + 1 → p j ≤ p m) := by
              show ∀ j, m < j → j < i + 1 → p j ≤ p m
              intro j a b
              by_cases q : j = i
              · subst q; omega
              · exact Hr j a (by omega)
            clear Hr
            go_wp2
            go_quiet (fail)
            go_wp2
            go_roundg (hi - (i + 1))
            case measure => go_light; omega
            case rel => go_light; exact ⟨m, i + 1, by omega, by omega, by omega, rfl, rfl, by go_num, ⟨_, rfl⟩, Hl, Hr'⟩
      · as_aux_lemma =>
          obtain rfl : hi = i := by omega
          have e2 := HW.pn m (by omega)
          have q2 := Hltn m (by omega)
          have q4 : ((ν m : Nat) : Int) < (n : Int) := by omega
          go_wp2_with fail
          refine ((show ∀ (lo hi : Nat) (par : Int) (E : Nat → Nat → Int) (w : World), hi - lo ≤ d → lo ≤ hi → hi ≤ nn → CW w b off b2 o2 nn p ν → w.rowIs ge 66 (n * 3) (ecs E) → Calls Try.prog 22 #[.slice (some ⟨b, off, none⟩) n c, .slice (some ⟨b2, o2, none⟩) nn c2, .int .i64 (lo : Int), .int .i64 (hi : Int), .int .i32 par, .slice (some ⟨ge, 0, none⟩) n n] w fun e w' => RetCart w ge n p ν E lo hi par e w' from Hih) lo m (ν m) E (w.drewN z) (by omega) (by omega) (by omega) ⟨HW.px, HW.pn⟩ HR).mono ?_
          rintro e w1 ⟨E1, r1, rfl, hF1, hR1, hT1, hk1⟩
          have hW1 : CW w1 b off b2 o2 nn p ν := CW.fr (w := w.drewN z) ⟨HW.px, HW.pn⟩ hF1 hb hb2
          have h2 := (show ∀ (lo hi : Nat) (par : Int) (E : Nat → Nat → Int) (w : World), hi - lo ≤ d → lo ≤ hi → hi ≤ nn → CW w b off b2 o2 nn p ν → w.rowIs ge 66 (n * 3) (ecs E) → Calls Try.prog 22 #[.slice (some ⟨b, off, none⟩) n c, .slice (some ⟨b2, o2, none⟩) nn c2, .int .i64 (lo : Int), .int .i64 (hi : Int), .int .i32 par, .slice (some ⟨ge, 0, none⟩) n n] w fun e w' => RetCart w ge n p ν E lo hi par e w' from Hih) (m + 1) hi (ν m) E1 w1 (by omega) (by omega) (by omega) hW1 hR1
          rw [show ((m + 1 : Nat) : Int) = (m : Int) + 1 by omega] at h2
          have hF1' := Fr.of_drewN hF1
          clear hW1 hR1 hF1
          go_wp2_with fail
          refine h2.mono ?_
          rintro e w2 ⟨E2, r2, rfl, hF2, hR2, hT2, hk2⟩
          obtain ⟨hT3, hk3⟩ := cart_node (par := par) hm1 hm2 hhn Hinj Hl Hr hT1 hk1 hT2 hk2
          have hF3 := hF1'.trans hF2
          clear h2 hF1' hF2 hT1 hT2 hk1 hk2
          have HT3 : Hid _ := hT3
          have Hk3 : Hid _ := hk3
          have Hb : Hid (Try.prog.built 66 [(0, .int .i32 r1), (1, .int .i32 r2), (2, .int .i32 par)] = some [Value.int .i32 r1, .int .i32 r2, .int .i32 par].toArray) := built66 _ _ _
          have Hth : Hid (w2.there ge (ν m * 3) 3) := rowIs_there hR2 (by omega)
          have HR3 : Hid ((w2.setCells ge (ν m * 3) [Value.int .i32 r1, .int .i32 r2, .int .i32 par]).rowIs ge 66 (n * 3) (ecs (upd3 E2 (ν m) r1 r2 par))) := rowIs_upd3 hR2
          have HF4 : Hid (Fr ge w (w2.setCells ge (ν m * 3) [Value.int .i32 r1, .int .i32 r2, .int .i32 par])) := hF3.setCells _ _
          clear hR2 hF3 hT3 hk3
          obtain ⟨Wn, hWn⟩ : ∃ W, w2.setCells ge (ν m * 3) [Value.int .i32 r1, .int .i32 r2, .int .i32 par] = W := ⟨_, rfl⟩
          rw [hWn] at HR3 HF4
          have HWn : Hid _ := hWn
          clear hWn
          go_upto_region 12 with fail
          refine wp_region_plain_last ?_
          dsimp only [initL, lastL]
          iterate 5 (go_big_quiet_step (fail))
          go_big_quiet_want
          refine quiet_build 66 [(0, .tmp 68), (1, .tmp 69), (2, .tmp 70)] rfl _ rfl _ Hb ?_
          go_simp
          go_big_quiet_on
          iterate 1 (go_big_quiet_step (fail))
          refine wpQuiet_nil ?_
          intro wz hz
          obtain ⟨nq, rfl⟩ := hz
          refine wpList_store_to rfl 66 (.tmp 72) (.tmp 71) rfl ge (ν m * 3) [Value.int .i32 r1, .int .i32 r2, .int .i32 par] (Wn.drewN nq) (by rw [← show w2.setCells ge (ν m * 3) [Value.int .i32 r1, .int .i32 r2, .int .i32 par] = Wn from HWn]; exact setCells_drewN _) rfl rfl Hth Try.size66 (by simp [Value.oneCell']) ?_
          refine wpList_nil ?_
          go_wp2
          go_ret
          exact ⟨_, _, rfl, HF4.drewN nq, HR3, HT3, Hk3⟩

def RetTrue' (w : World) (e : Ending) (w' : World) : Prop := e = .returned (.bool true) ∧ Below w.heap.size w w'
theorem samePlace_any (x y z : Int) (w : World) : Calls Try.prog 23 #[.agg [Value.int .i32 x, .int .i32 y, .int .i32 z].toArray, .agg [Value.int .i32 x, .int .i32 y, .int .i32 z].toArray] w fun e w' => RetTrue' w e w' := by
  go_enter Try.func23, Try.ntmps23
  go_wp2
  go_ret
  exact ⟨rfl, ((Below.refl _ _).alloc (Nat.le_refl _) _).alloc (by simp) _⟩
end Go.Proofs.Qxb6601797a
