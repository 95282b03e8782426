/- Walk: treap, ZZTreap. -/
import Derived.Test.Qxb6601797aPlain2
import Derived.Test.Qxb6601797aPcs
import Derived.Deep.RegionLaw
import Derived.Deep.DeepCutAuto
import Derived.WalkSpells
import Derived.Maps.AppendAt
import Derived.OneCell
namespace Go.Proofs.Qxb6601797a
open Go.RowKit Go.Maps

/-- what treap hands back -/
def RetTreap (w : World) (g n τ : Nat) (X : Nat → Pc) (nn : Nat) (ν : Nat → Nat) (e : Ending) (W' : World) : Prop :=
  ∃ (G : Nat → Nat → Int) (r : Int), e = .returned (.int .i32 r) ∧ Fr g w W' ∧ W'.rowIs g 121 (n * 31) (pcs (setG X τ G)) ∧ CT (fun m => (X (ν m)).pri) ν G 0 nn 0 r ∧
    ∀ k, (∀ m, m < nn → ν m ≠ k) → ∀ c, G k c = (X k).pl (τ * 3 + c)
def RetZero (w : World) (e : Ending) (W' : World) : Prop := e = .returned (.int .i32 0) ∧ W' = w

set_option maxRecDepth 100000 in
theorem treap_zero (v : Value) (an : Option Addr) (cn : Nat) (t : Int) (w : World) : Calls Try.prog 38 #[v, .int .i64 t, .slice an 0 cn] w fun e w' => RetZero w e w' := by
  go_enter Try.func38, Try.ntmps38
  go_wp2
  go_loopg [7, 14] 0 (fun q s7 s14 wr => q = 0 ∧ s14 = .int .i64 0 ∧ s7 = .slice none 0 0 ∧ wr = w)
  case atStart => exact ⟨rfl, rfl, rfl, rfl⟩
  case round =>
    obtain ⟨rfl, rfl, rfl, rfl⟩ := hrel
    go_wp2
    go_ret
    exact ⟨rfl, rfl⟩

theorem Sp.len {p : Nat → Int} {ν : Nat → Nat} {G : Nat → Nat → Int} : ∀ {st : List Nat}, Sp p ν G st → st.length ≤ bas st
  | [], _ => Nat.le_refl _
  | e :: st, h => by
    have := Sp.len h.2.2.2.2.2
    have h1 := h.1
    simp only [List.length_cons, bas]
    omega

theorem gen_world {P : Program} {code : Code} {Q : Exit → Act → World → Prop} {a : Act} {W : World} (φ : World → Prop) (h : φ W) (h' : ∀ W', φ W' → Code.wp P code Q a W') : Code.wp P code Q a W := h' W h

theorem after_append {w W W' : World} {g : Nat} {t : TypeId} {N : Nat} {F : Nat → Value} {v : Value} (hrow : W.rowIs g t N F) (hF : Fr g w W) (hg : g < w.heap.size) (hO : ∀ k, v.ownBlock = some k → w.heap.size ≤ k) {o : Obj}
    (hgrow : (W.alloc o).grownBy W' v.ownBlock) : W'.rowIs g t N F ∧ Fr g w W' := by
  have hs := hF.below.size
  refine ⟨hrow.of_block ?_, (hF.alloc hg o).grown hg hgrow hO⟩
  rw [hgrow.block g (by simp; omega) (fun e => by have := hO g e.symm; omega)]
  exact Below.heap_alloc _ _ _ (by omega)

theorem owns_drewN {w : World} {base : Nat} {t : TypeId} {s : Nat} {v : Value} {n : Nat} {xs : List Value} (h : w.ownsRow base t s v n xs) (d : Nat) : (w.drewN d).ownsRow base t s v n xs := h
theorem rowIs_upd0 {w : World} {g n : Nat} {t : TypeId} {X : Nat → Pc} {τ : Nat} {G : Nat → Nat → Int} {k : Nat} (h : w.rowIs g t (n * 31) (pcs (setG X τ G))) (hτ : τ < 2) (v : Int) :
    (w.setCell ⟨g, k * 31 + 23 + τ * 3, none⟩ (.int .i32 v)).rowIs g t (n * 31) (pcs (setG X τ (upd G k 0 v))) := by
  have := rowIs_upd (k := k) (c := 0) h hτ (by omega) v
  rw [Nat.add_zero] at this
  exact this
theorem cell_far {w : World} {p a : Addr} {v : Value} (h : p.block ≠ a.block) : (w.setCell p v).cell? a = w.cell? a := World.cell?_setCell_other _ _ _ _ (fun e => h (by rw [e]))
theorem Try.info21' : (Try.prog.info? 21).map (fun i => (i.zero, i.size, i.bytes)) = some (some (.int .i32 0), 1, 4) := Try.info21

set_option maxHeartbeats 4000000 in
set_option maxRecDepth 100000 in
theorem treap_any (g n pc : Nat) (an : Option Addr) (nn cn τ : Nat) (X : Nat → Pc) (ν : Nat → Nat) (w : World) (hn : n ≤ 65536) (hnn : nn ≤ 65536) (hτ : τ < 2)
    (hrow : w.rowIs g 121 (n * 31) (pcs X)) (hN : RowN w g an nn (fun i => .int .i32 (ν i : Int))) (hpos : ∀ m, m < nn → 0 < ν m) (hltn : ∀ m, m < nn → ν m < n) (hinj : ∀ a b, a < nn → b < nn → ν a = ν b → a = b)
    (hz : ∀ m, m < nn → ∀ c, c < 3 → (X (ν m)).pl (τ * 3 + c) = 0) :
    Calls Try.prog 38 #[.slice (some ⟨g, 0, none⟩) n pc, .int .i64 (τ : Int), .slice an nn cn] w fun e w' => RetTreap w g n τ X nn ν e w' := by
  obtain ⟨bn, on, han, hcn⟩ := hN
  obtain ⟨i0, hi, hz0, hz1, hz2⟩ := info_parts Try.info21'
  obtain ⟨p, hpp⟩ : ∃ p : Nat → Int, p = fun m => (X (ν m)).pri := ⟨_, rfl⟩
  have Hpp : Hid (p = fun m => (X (ν m)).pri) := hpp
  have hpe : Hid (∀ m, (X (ν m)).pri = p m) := by show ∀ m, (X (ν m)).pri = p m; intro m; rw [hpp]
  clear hpp
  have hτz : (τ : Int) < 2 := by omega
  have Hpos : Hid (∀ m, m < nn → 0 < ν m) := hpos
  have Hinj : Hid (∀ a b, a < nn → b < nn → ν a = ν b → a = b) := hinj
  have Hz : Hid (∀ m, m < nn → ∀ c, c < 3 → (X (ν m)).pl (τ * 3 + c) = 0) := hz
  have Hltn : Hid (∀ m, m < nn → ν m < n) := hltn
  have Hcn : Hid (∀ i, i < nn → w.cell? ⟨bn, on + i, none⟩ = some (.int .i32 (ν i : Int))) := hcn
  clear hpos hinj hz hltn hcn
  go_enter Try.func38, Try.ntmps38
  go_wp2
  go_loopg [7, 14] nn (fun q s7 s14 wr => ∃ (i : Nat) (st : List Nat) (G : Nat → Nat → Int), i ≤ nn ∧ q = nn - i ∧ s14 = .int .i64 i ∧ wr.ownsRow w.heap.size 21 1 s7 st.length (stv ν st) ∧ Fr g w wr ∧ wr.rowIs g 121 (n * 31) (pcs (setG X τ G)) ∧ TS p ν (fun k c => (X k).pl (τ * 3 + c)) G nn i st)
  case atStart =>
    refine ⟨0, [], fun k c => (X k).pl (τ * 3 + c), Nat.zero_le _, rfl, rfl, ⟨rfl, .inl ⟨rfl, rfl⟩⟩, Fr.refl _ _, ?_, ⟨trivial, rfl, fun e st' he => by (cases he), fun m _ hm c hc => Hz m hm c hc, fun k _ c => rfl⟩⟩
    rw [setG_self]
    exact hrow
  case round =>
    obtain ⟨i, st0, G, hi0, rfl, rfl, hO, hF, hR, hTS⟩ := hrel
    by_cases hlt : i < nn
    · obtain ⟨rfl, hbne⟩ := han (by omega)
      have hbl : bn < w.heap.size := World.block_lt_of_cell? _ _ (Hcn i hlt)
      have hgw : g < w.heap.size := World.block_lt_of_cell? _ _ (hrow.cell (i := 0) (by have := Hltn i hlt; omega))
      rename World => W1
      have e1 : W1.cell? ⟨bn, on + i, none⟩ = some (.int .i32 (ν i : Int)) := (World.cell?_of_block (a := ⟨bn, on + i, none⟩) (hF.keep bn hbl hbne)).trans (Hcn i hlt)
      have hws := hF.below.size
      have hni := Hltn i hlt
      have hpi := Hpos i hlt
      have ci : W1.cell? ⟨g, ν i * 31 + 29, none⟩ = some (.int .u64 (p i)) := (hR.cell (by omega)).trans (by rw [pcs_at _ _ 29 (by omega), cell_rest _ _ _ _ 29 (by omega), ← hpe i]; rfl)
      have HR : Hid (W1.rowIs g 121 (n * 31) (pcs (setG X τ G))) := hR
      have HTS : Hid (TS p ν (fun k c => (X k).pl (τ * 3 + c)) G nn i st0) := hTS
      have hnz : ((ν i : Nat) : Int) < (n : Int) := by omega
      clear hR hTS hrow
      go_wp2
      go_loopg [7, 10] st0.length (fun q s7 s10 wx => ∃ (st : List Nat) (c : Int), q = st.length ∧ s10 = .int .i32 c ∧ W1.ownsRow w.heap.size 21 1 s7 st.length (stv ν st) ∧ (∃ d, wx = W1.drewN d) ∧ Pop p ν G i st c)
      case atStart => exact ⟨st0, 0, rfl, rfl, hO, ⟨0, rfl⟩, by have h := Pop.start HTS.sp HTS.right; rw [HTS.pos] at h; exact h⟩
      case round =>
        obtain ⟨st, c, rfl, rfl, hO1, ⟨d, rfl⟩, hPop⟩ := hrel
        have hlen := Sp.len hPop.sp
        have hle := hPop.tree.le
        have HP : Hid (Pop p ν G i st c) := hPop
        have Hroot : Hid (c = 0 ∨ ∃ m, bas st ≤ m ∧ m < i ∧ c = (ν m : Int)) := hPop.tree.root
        clear hPop hO
        have hblk := owns_block hO1
        have Hblk : Hid (∀ k, Value.ownBlock _ = some k → w.heap.size ≤ k) := hblk
        clear hblk
        have yl : W1.cell? ⟨g, ν i * 31 + 23 + τ * 3, none⟩ = some (pcs (setG X τ G) (ν i * 31 + 23 + τ * 3)) := Hid.out HR |>.cell (by omega)
        have zl : W1.frozen? ⟨g, ν i * 31 + 23 + τ * 3, none⟩ = false := Hid.out HR |>.frozen _
        have hRd : ∀ d, (W1.drewN d).rowIs g 121 (n * 31) (pcs (setG X τ G)) := fun _ => Hid.out HR
        have hOd := fun d => owns_drewN hO1 d
        cases st with
        | nil =>
          obtain ⟨ea, ec, rfl⟩ := owns_zero hO1
          rcases (show c = 0 ∨ ∃ m, bas [] ≤ m ∧ m < i ∧ c = (ν m : Int) from Hroot) with rfl | ⟨m', hb', hm', rfl⟩
          · as_aux_lemma =>
              have Htr : Hid (TS p ν (fun k c => (X k).pl (τ * 3 + c)) (pushG ν G i [] 0) nn (i + 1) [i]) := TS.push HTS HP hlt Hpos Hinj (fun e st' he => by (cases he))
              go_wp2
              go_quiet (fail)
              go_upto_region 16 with fail
              refine gen_world (fun W' => W'.rowIs g 121 (n * 31) (pcs (setG X τ (pushG ν G i [] 0))) ∧ Fr g w W' ∧ W'.ownsRow w.heap.size 21 1 (.slice ea 0 ec) 0 (stv ν [])) ?_ ?_
              · exact ⟨rowIs_upd0 (k := ν i) (hRd _) hτ _, (hF.drewN _).set _ _, ownsRow_setCell_below (hOd _) hgw _⟩
              · rintro W5 ⟨hR5, hF5, hO5⟩
                have hw5 := hF5.below.size
                have HR5 : Hid _ := hR5
                clear yl zl ci e1
                go_wp2_with (at_builtin; refine wpList_append_own_at _ rfl _ _ 52 rfl w.heap.size 21 i0 (.int .i32 0) 1 4 Try.underlying52 hi hz0 hz1 hz2 rfl (by decide) _ _ _ rfl (hO5.alloc _) ⟨W5.heap.size, 0, none⟩ 1 1 [.int .i32 (ν i : Int)] rfl rfl (cell_one_new _ _ _) (ints_oneCell .i32 [(ν i : Int)]) (by unfold maxLen; simp only [bas, List.length_nil] at *; omega) (by simp only [bas, List.length_nil] at *; omega) (by simp; omega) ?_; intro v' w1 hown' hgrow hnil hloc)
                obtain ⟨hR6, hF6⟩ := after_append HR5 hF5 hgw Hblk hgrow
                have HR6 : Hid _ := hR6
                clear hR6 hnil hloc hgrow
                go_wp2
                go_roundg (nn - (i + 1))
                case measure => go_light; omega
                case rel =>
                  go_light
                  refine ⟨i + 1, i :: [], _, by omega, rfl, by go_num, ?_, hF6, HR6, Htr⟩
                  rw [stv_cons]
                  exact hown'
          · as_aux_lemma =>
              have Htr : Hid (TS p ν (fun k c => (X k).pl (τ * 3 + c)) (pushG ν G i [] (ν m' : Int)) nn (i + 1) [i]) := TS.push HTS HP hlt Hpos Hinj (fun e st' he => by (cases he))
              have hm0 := Hpos m' (by omega)
              have hmn := Hltn m' (by omega)
              have hmz : ((ν m' : Nat) : Int) < (n : Int) := by omega
              have hmz0 : (0 : Int) < ((ν m' : Nat) : Int) := by omega
              have ev : Hid (pushG ν G i [] (ν m' : Int) = upd (upd G (ν i) 0 (ν m')) (ν m') 2 (ν i)) := by
                show pushG ν G i [] (ν m' : Int) = _
                simp only [pushG, Int.toNat_natCast]
                rw [if_neg (by omega)]
              go_wp2
              go_quiet (fail)
              go_upto_region 11 with fail
              refine gen_world (fun W' => W'.rowIs g 121 (n * 31) (pcs (setG X τ (upd G (ν i) 0 (ν m')))) ∧ Fr g w W' ∧ W'.ownsRow w.heap.size 21 1 (.slice ea 0 ec) 0 (stv ν [])) ?_ ?_
              · exact ⟨rowIs_upd0 (k := ν i) (hRd _) hτ _, (hF.drewN _).set _ _, ownsRow_setCell_below (hOd _) hgw _⟩
              rintro W2 ⟨hR2, hF2, hO2⟩
              have y2 : W2.cell? ⟨g, ν m' * 31 + 23 + τ * 3 + 2, none⟩ = some (pcs (setG X τ (upd G (ν i) 0 (ν m'))) (ν m' * 31 + 23 + τ * 3 + 2)) := hR2.cell (by omega)
              have z2 : W2.frozen? ⟨g, ν m' * 31 + 23 + τ * 3 + 2, none⟩ = false := hR2.frozen _
              have HR2 : Hid _ := hR2
              clear hR2
              go_upto_region 16 with fail
              refine gen_world (fun W' => W'.rowIs g 121 (n * 31) (pcs (setG X τ (pushG ν G i [] (ν m' : Int)))) ∧ Fr g w W' ∧ W'.ownsRow w.heap.size 21 1 (.slice ea 0 ec) 0 (stv ν [])) ?_ ?_
              · rw [ev]
                exact ⟨rowIs_upd (k := ν m') (c := 2) (Hid.out HR2) hτ (by omega) _, hF2.set _ _, ownsRow_setCell_below hO2 hgw _⟩
              · rintro W5 ⟨hR5, hF5, hO5⟩
                have hw5 := hF5.below.size
                have HR5 : Hid _ := hR5
                clear yl zl ci e1
                go_wp2_with (at_builtin; refine wpList_append_own_at _ rfl _ _ 52 rfl w.heap.size 21 i0 (.int .i32 0) 1 4 Try.underlying52 hi hz0 hz1 hz2 rfl (by decide) _ _ _ rfl (hO5.alloc _) ⟨W5.heap.size, 0, none⟩ 1 1 [.int .i32 (ν i : Int)] rfl rfl (cell_one_new _ _ _) (ints_oneCell .i32 [(ν i : Int)]) (by unfold maxLen; simp only [bas, List.length_nil] at *; omega) (by simp only [bas, List.length_nil] at *; omega) (by simp; omega) ?_; intro v' w1 hown' hgrow hnil hloc)
                obtain ⟨hR6, hF6⟩ := after_append HR5 hF5 hgw Hblk hgrow
                have HR6 : Hid _ := hR6
                clear hR6 hnil hloc hgrow
                go_wp2
                go_roundg (nn - (i + 1))
                case measure => go_light; omega
                case rel =>
                  go_light
                  refine ⟨i + 1, i :: [], _, by omega, rfl, by go_num, ?_, hF6, HR6, Htr⟩
                  rw [stv_cons]
                  exact hown'
        | cons e st =>
          obtain ⟨ge, cap, rfl, hge, hgel, hcap, hcells⟩ := owns_some hO1
          have hei : e + 1 ≤ i := hle
          have hsl : st.length ≤ 65536 := by
            simp only [List.length_cons, bas] at hlen
            omega
          have ye : W1.cell? ⟨ge, st.length, none⟩ = some (.int .i32 (ν e : Int)) := (hcells _ (by omega)).trans (stv_top ν e st)
          have hen := Hltn e (by omega)
          have hep := Hpos e (by omega)
          have henz : ((ν e : Nat) : Int) < (n : Int) := by omega
          have ce : W1.cell? ⟨g, ν e * 31 + 29, none⟩ = some (.int .u64 (p e)) := (Hid.out HR |>.cell (by omega)).trans (by rw [pcs_at _ _ 29 (by omega), cell_rest _ _ _ _ 29 (by omega), ← hpe e]; rfl)
          clear hcells
          have hge2 : ge ≠ g := by omega
          by_cases hp : p e < p i
          · as_aux_lemma =>
              have HO2 : Hid (W1.ownsRow w.heap.size 21 1 (.slice (some ⟨ge, 0, none⟩) st.length cap) st.length (stv ν st)) := ownsRow_pop (last := [Value.int .i32 (ν e : Int)]) (by rw [stv_length]; omega) (by rw [← stv_cons]; exact hO1)
              have HP2 : Hid (Pop p ν G i st (ν e)) := HP.pop hp
              go_wp2
              go_quiet (fail)
              go_wp2
              go_roundg st.length
              case measure => go_light; simp
              case rel =>
                go_light
                exact ⟨st, _, rfl, rfl, HO2, ⟨_, rfl⟩, HP2⟩
          · have hpl : p i ≤ p e := by omega
            rcases (show c = 0 ∨ ∃ m, bas (e :: st) ≤ m ∧ m < i ∧ c = (ν m : Int) from Hroot) with rfl | ⟨m', hb', hm', rfl⟩
            · as_aux_lemma =>
                have Htr : Hid (TS p ν (fun k c => (X k).pl (τ * 3 + c)) (pushG ν G i (e :: st) 0) nn (i + 1) (i :: e :: st)) := TS.push HTS HP hlt Hpos Hinj (fun e' st' he => by cases he; exact hpl)
                have ev : Hid (pushG ν G i (e :: st) 0 = upd (upd (upd G (ν i) 0 0) (ν e) 1 (ν i)) (ν i) 2 (ν e)) := rfl
                go_wp2
                go_quiet (fail)
                go_upto_region 13 with fail
                refine gen_world (fun W' => W'.rowIs g 121 (n * 31) (pcs (setG X τ (upd G (ν i) 0 0))) ∧ Fr g w W' ∧ W'.ownsRow w.heap.size 21 1 (.slice (some ⟨ge, 0, none⟩) (st.length + 1) cap) (st.length + 1) (stv ν (e :: st)) ∧ W'.cell? ⟨ge, st.length, none⟩ = some (.int .i32 (ν e : Int))) ?_ ?_
                · exact ⟨rowIs_upd0 (k := ν i) (hRd _) hτ _, (hF.drewN _).set _ _, ownsRow_setCell_below (hOd _) hgw _, (cell_far (show g ≠ ge from Ne.symm hge2)).trans ye⟩
                rintro W3 ⟨hR3, hF3, hO3, ye3⟩
                have y3 : W3.cell? ⟨g, ν e * 31 + 23 + τ * 3 + 1, none⟩ = some (pcs (setG X τ (upd G (ν i) 0 0)) (ν e * 31 + 23 + τ * 3 + 1)) := hR3.cell (by omega)
                have z3 : W3.frozen? ⟨g, ν e * 31 + 23 + τ * 3 + 1, none⟩ = false := hR3.frozen _
                have HR3 : Hid _ := hR3
                clear hR3
                go_upto_region 15 with fail
                refine gen_world (fun W' => W'.rowIs g 121 (n * 31) (pcs (setG X τ (upd (upd G (ν i) 0 0) (ν e) 1 (ν i)))) ∧ Fr g w W' ∧ W'.ownsRow w.heap.size 21 1 (.slice (some ⟨ge, 0, none⟩) (st.length + 1) cap) (st.length + 1) (stv ν (e :: st))) ?_ ?_
                · exact ⟨rowIs_upd (k := ν e) (c := 1) (Hid.out HR3) hτ (by omega) _, hF3.set _ _, ownsRow_setCell_below hO3 hgw _⟩
                rintro W4 ⟨hR4, hF4, hO4⟩
                have y4 : W4.cell? ⟨g, ν i * 31 + 23 + τ * 3 + 2, none⟩ = some (pcs (setG X τ (upd (upd G (ν i) 0 0) (ν e) 1 (ν i))) (ν i * 31 + 23 + τ * 3 + 2)) := hR4.cell (by omega)
                have z4 : W4.frozen? ⟨g, ν i * 31 + 23 + τ * 3 + 2, none⟩ = false := hR4.frozen _
                have HR4 : Hid _ := hR4
                clear hR4 y3 z3 ye3
                go_upto_region 16 with fail
                refine gen_world (fun W' => W'.rowIs g 121 (n * 31) (pcs (setG X τ (pushG ν G i (e :: st) 0))) ∧ Fr g w W' ∧ W'.ownsRow w.heap.size 21 1 (.slice (some ⟨ge, 0, none⟩) (st.length + 1) cap) (st.length + 1) (stv ν (e :: st))) ?_ ?_
                · rw [ev]
                  exact ⟨rowIs_upd (k := ν i) (c := 2) (Hid.out HR4) hτ (by omega) _, hF4.set _ _, ownsRow_setCell_below hO4 hgw _⟩
                · rintro W5 ⟨hR5, hF5, hO5⟩
                  have hw5 := hF5.below.size
                  have HR5 : Hid _ := hR5
                  clear yl zl ci e1
                  go_wp2_with (at_builtin; refine wpList_append_own_at _ rfl _ _ 52 rfl w.heap.size 21 i0 (.int .i32 0) 1 4 Try.underlying52 hi hz0 hz1 hz2 rfl (by decide) _ _ _ rfl (hO5.alloc _) ⟨W5.heap.size, 0, none⟩ 1 1 [.int .i32 (ν i : Int)] rfl rfl (cell_one_new _ _ _) (ints_oneCell .i32 [(ν i : Int)]) (by unfold maxLen; simp only [bas, List.length_cons] at *; omega) (by simp only [bas, List.length_cons] at *; omega) (by simp; omega) ?_; intro v' w1 hown' hgrow hnil hloc)
                  obtain ⟨hR6, hF6⟩ := after_append HR5 hF5 hgw Hblk hgrow
                  have HR6 : Hid _ := hR6
                  clear hR6 hnil hloc hgrow
                  go_wp2
                  go_roundg (nn - (i + 1))
                  case measure => go_light; omega
                  case rel =>
                    go_light
                    refine ⟨i + 1, i :: (e :: st), _, by omega, rfl, by go_num, ?_, hF6, HR6, Htr⟩
                    rw [stv_cons]
                    exact hown'
            · as_aux_lemma =>
                have Htr : Hid (TS p ν (fun k c => (X k).pl (τ * 3 + c)) (pushG ν G i (e :: st) (ν m' : Int)) nn (i + 1) (i :: e :: st)) := TS.push HTS HP hlt Hpos Hinj (fun e' st' he => by cases he; exact hpl)
                have hm0 := Hpos m' (by omega)
                have hmn := Hltn m' (by omega)
                have hmz : ((ν m' : Nat) : Int) < (n : Int) := by omega
                have hmz0 : (0 : Int) < ((ν m' : Nat) : Int) := by omega
                have ev : Hid (pushG ν G i (e :: st) (ν m' : Int) = upd (upd (upd (upd G (ν i) 0 (ν m')) (ν m') 2 (ν i)) (ν e) 1 (ν i)) (ν i) 2 (ν e)) := by
                  show pushG ν G i (e :: st) (ν m' : Int) = _
                  simp only [pushG, Int.toNat_natCast]
                  rw [if_neg (by omega)]
                go_wp2
                go_quiet (fail)
                go_upto_region 11 with fail
                refine gen_world (fun W' => W'.rowIs g 121 (n * 31) (pcs (setG X τ (upd G (ν i) 0 (ν m')))) ∧ Fr g w W' ∧ W'.ownsRow w.heap.size 21 1 (.slice (some ⟨ge, 0, none⟩) (st.length + 1) cap) (st.length + 1) (stv ν (e :: st)) ∧ W'.cell? ⟨ge, st.length, none⟩ = some (.int .i32 (ν e : Int))) ?_ ?_
                · exact ⟨rowIs_upd0 (k := ν i) (hRd _) hτ _, (hF.drewN _).set _ _, ownsRow_setCell_below (hOd _) hgw _, (cell_far (show g ≠ ge from Ne.symm hge2)).trans ye⟩
                rintro W2 ⟨hR2, hF2, hO2, ye2⟩
                have y2 : W2.cell? ⟨g, ν m' * 31 + 23 + τ * 3 + 2, none⟩ = some (pcs (setG X τ (upd G (ν i) 0 (ν m'))) (ν m' * 31 + 23 + τ * 3 + 2)) := hR2.cell (by omega)
                have z2 : W2.frozen? ⟨g, ν m' * 31 + 23 + τ * 3 + 2, none⟩ = false := hR2.frozen _
                have HR2 : Hid _ := hR2
                clear hR2 ye ce ci e1 yl zl
                go_upto_region 13 with fail
                refine gen_world (fun W' => W'.rowIs g 121 (n * 31) (pcs (setG X τ (upd (upd G (ν i) 0 (ν m')) (ν m') 2 (ν i)))) ∧ Fr g w W' ∧ W'.ownsRow w.heap.size 21 1 (.slice (some ⟨ge, 0, none⟩) (st.length + 1) cap) (st.length + 1) (stv ν (e :: st)) ∧ W'.cell? ⟨ge, st.length, none⟩ = some (.int .i32 (ν e : Int))) ?_ ?_
                · exact ⟨rowIs_upd (k := ν m') (c := 2) (Hid.out HR2) hτ (by omega) _, hF2.set _ _, ownsRow_setCell_below hO2 hgw _, (cell_far (show g ≠ ge from Ne.symm hge2)).trans ye2⟩
                rintro W3 ⟨hR3, hF3, hO3, ye3⟩
                have y3 : W3.cell? ⟨g, ν e * 31 + 23 + τ * 3 + 1, none⟩ = some (pcs (setG X τ (upd (upd G (ν i) 0 (ν m')) (ν m') 2 (ν i))) (ν e * 31 + 23 + τ * 3 + 1)) := hR3.cell (by omega)
                have z3 : W3.frozen? ⟨g, ν e * 31 + 23 + τ * 3 + 1, none⟩ = false := hR3.frozen _
                have HR3 : Hid _ := hR3
                clear hR3
                go_upto_region 15 with fail
                refine gen_world (fun W' => W'.rowIs g 121 (n * 31) (pcs (setG X τ (upd (upd (upd G (ν i) 0 (ν m')) (ν m') 2 (ν i)) (ν e) 1 (ν i)))) ∧ Fr g w W' ∧ W'.ownsRow w.heap.size 21 1 (.slice (some ⟨ge, 0, none⟩) (st.length + 1) cap) (st.length + 1) (stv ν (e :: st))) ?_ ?_
                · exact ⟨rowIs_upd (k := ν e) (c := 1) (Hid.out HR3) hτ (by omega) _, hF3.set _ _, ownsRow_setCell_below hO3 hgw _⟩
                rintro W4 ⟨hR4, hF4, hO4⟩
                have y4 : W4.cell? ⟨g, ν i * 31 + 23 + τ * 3 + 2, none⟩ = some (pcs (setG X τ (upd (upd (upd G (ν i) 0 (ν m')) (ν m') 2 (ν i)) (ν e) 1 (ν i))) (ν i * 31 + 23 + τ * 3 + 2)) := hR4.cell (by omega)
                have z4 : W4.frozen? ⟨g, ν i * 31 + 23 + τ * 3 + 2, none⟩ = false := hR4.frozen _
                have HR4 : Hid _ := hR4
                clear hR4 y3 z3 ye3
                go_upto_region 16 with fail
                refine gen_world (fun W' => W'.rowIs g 121 (n * 31) (pcs (setG X τ (pushG ν G i (e :: st) (ν m' : Int)))) ∧ Fr g w W' ∧ W'.ownsRow w.heap.size 21 1 (.slice (some ⟨ge, 0, none⟩) (st.length + 1) cap) (st.length + 1) (stv ν (e :: st))) ?_ ?_
                · rw [ev]
                  exact ⟨rowIs_upd (k := ν i) (c := 2) (Hid.out HR4) hτ (by omega) _, hF4.set _ _, ownsRow_setCell_below hO4 hgw _⟩
                · rintro W5 ⟨hR5, hF5, hO5⟩
                  have hw5 := hF5.below.size
                  have HR5 : Hid _ := hR5
                  go_wp2_with (at_builtin; refine wpList_append_own_at _ rfl _ _ 52 rfl w.heap.size 21 i0 (.int .i32 0) 1 4 Try.underlying52 hi hz0 hz1 hz2 rfl (by decide) _ _ _ rfl (hO5.alloc _) ⟨W5.heap.size, 0, none⟩ 1 1 [.int .i32 (ν i : Int)] rfl rfl (cell_one_new _ _ _) (ints_oneCell .i32 [(ν i : Int)]) (by unfold maxLen; simp only [bas, List.length_cons] at *; omega) (by simp only [bas, List.length_cons] at *; omega) (by simp; omega) ?_; intro v' w1 hown' hgrow hnil hloc)
                  obtain ⟨hR6, hF6⟩ := after_append HR5 hF5 hgw Hblk hgrow
                  have HR6 : Hid _ := hR6
                  clear hR6 hnil hloc hgrow
                  go_wp2
                  go_roundg (nn - (i + 1))
                  case measure => go_light; omega
                  case rel =>
                    go_light
                    refine ⟨i + 1, i :: (e :: st), _, by omega, rfl, by go_num, ?_, hF6, HR6, Htr⟩
                    rw [stv_cons]
                    exact hown'
    · as_aux_lemma =>
        obtain rfl : nn = i := by omega
        cases st0 with
        | nil =>
          obtain ⟨ea, ec, rfl⟩ := owns_zero hO
          have h0 : (0 : Nat) = nn := hTS.pos
          have Hc : Hid (CT p ν G 0 nn 0 0) := by rw [← h0]; exact .nil _ _
          go_wp2
          go_ret
          exact ⟨G, 0, rfl, hF, hR, by rw [← show p = fun m => (X (ν m)).pri from Hpp]; exact Hc, hTS.rest⟩
        | cons e st =>
          obtain ⟨ge, cap, rfl, hge, hgel, hcap, hcells⟩ := owns_some hO
          have h0 : e + 1 = nn := hTS.pos
          have Hc : Hid (CT p ν G 0 nn 0 (ν (bot (e :: st)))) := by rw [← h0]; exact Sp.done hTS.sp (hTS.right e st rfl)
          have ye : wr.cell? ⟨ge, 0, none⟩ = some (.int .i32 (ν (bot (e :: st)) : Int)) := (hcells 0 (by omega)).trans (stv_bot ν st e)
          have HTS : Hid _ := hTS
          clear hcells hTS h0
          go_wp2
          go_ret
          exact ⟨G, _, rfl, hF, hR, by rw [← show p = fun m => (X (ν m)).pri from Hpp]; exact Hc, HTS.rest⟩

theorem zt_zero (v : Value) (an : Option Addr) (cn : Nat) (t : Int) (w : World) : Calls Try.prog 20 #[v, .int .i64 t, .slice an 0 cn] w fun e w' => RetZero w e w' := by
  go_enter Try.func20, Try.ntmps20
  go_wp2_with fail
  refine (treap_zero v an cn t _).mono ?_
  rintro e w1 ⟨rfl, rfl⟩
  go_wp2
  go_ret
  exact ⟨rfl, rfl⟩

theorem zt_any (g n pc : Nat) (an : Option Addr) (nn cn τ : Nat) (X : Nat → Pc) (ν : Nat → Nat) (w : World) (hn : n ≤ 65536) (hnn : nn ≤ 65536) (hτ : τ < 2)
    (hrow : w.rowIs g 121 (n * 31) (pcs X)) (hN : RowN w g an nn (fun i => .int .i32 (ν i : Int))) (hpos : ∀ m, m < nn → 0 < ν m) (hltn : ∀ m, m < nn → ν m < n) (hinj : ∀ a b, a < nn → b < nn → ν a = ν b → a = b)
    (hz : ∀ m, m < nn → ∀ c, c < 3 → (X (ν m)).pl (τ * 3 + c) = 0) :
    Calls Try.prog 20 #[.slice (some ⟨g, 0, none⟩) n pc, .int .i64 (τ : Int), .slice an nn cn] w fun e w' => RetTreap w g n τ X nn ν e w' := by
  have hc := treap_any g n pc an nn cn τ X ν w hn hnn hτ hrow hN hpos hltn hinj hz
  clear hrow hN hpos hltn hinj hz hn hnn hτ
  go_enter Try.func20, Try.ntmps20
  go_wp2_with fail
  refine hc.mono ?_
  rintro e w1 ⟨G, r, rfl, h⟩
  have H : Hid _ := h
  clear h hc
  go_wp2
  go_ret
  exact ⟨G, r, rfl, H⟩
end Go.Proofs.Qxb6601797a
