/- Walk: sameRest. -/
import Derived.Test.Qxb6601797aNeq
namespace Go.Proofs.Qxb6601797a
open Go.RowKit

theorem Try.size28 : (Try.prog.info? 28).map (·.size) = some 16 := by kernel_rfl

/-- the piece is as it was, but for its places and for where its text and its marks lie -/
structure Like (x y : Pc) : Prop where
  site : ∀ i, i < 16 → y.site i = x.site i
  seq : y.seq = x.seq
  k : y.k = x.k
  tn : y.tn = x.tn
  tnil : y.ta = none ↔ x.ta = none
  clock : y.clock = x.clock
  del : y.del = x.del
  mn : y.mn = x.mn
  mnil : y.ma = none ↔ x.ma = none
  next : y.next = x.next
  pri : y.pri = x.pri
  size : y.size = x.size

theorem site16_like {x y : Pc} (h : ∀ i, i < 16 → y.site i = x.site i) : y.site16 = x.site16 := by
  apply List.ext_getElem?
  intro i
  by_cases hi : i < 16
  · have : i = 0 ∨ i = 1 ∨ i = 2 ∨ i = 3 ∨ i = 4 ∨ i = 5 ∨ i = 6 ∨ i = 7 ∨ i = 8 ∨ i = 9 ∨ i = 10 ∨ i = 11 ∨ i = 12 ∨ i = 13 ∨ i = 14 ∨ i = 15 := by omega
    rcases this with rfl | rfl | rfl | rfl | rfl | rfl | rfl | rfl | rfl | rfl | rfl | rfl | rfl | rfl | rfl | rfl <;> (simp only [Pc.site16]; simp [Pc.cell, h])
  · rw [List.getElem?_eq_none (by rw [Pc.site16_length]; omega), List.getElem?_eq_none (by rw [Pc.site16_length]; omega)]
theorem site16_bytes (x : Pc) : ∀ i, i < 16 → ∃ z, x.site16[i]? = some (.int .u8 z) := fun i hi => by
  have : i = 0 ∨ i = 1 ∨ i = 2 ∨ i = 3 ∨ i = 4 ∨ i = 5 ∨ i = 6 ∨ i = 7 ∨ i = 8 ∨ i = 9 ∨ i = 10 ∨ i = 11 ∨ i = 12 ∨ i = 13 ∨ i = 14 ∨ i = 15 := by omega
  rcases this with rfl | rfl | rfl | rfl | rfl | rfl | rfl | rfl | rfl | rfl | rfl | rfl | rfl | rfl | rfl | rfl <;> exact ⟨_, rfl⟩
def Mk.site16 (m : Mk) : List Value := (List.range 16).map m.cell
theorem msite16_bytes (m : Mk) : ∀ i, i < 16 → ∃ z, m.site16[i]? = some (.int .u8 z) := fun i hi => by
  have : i = 0 ∨ i = 1 ∨ i = 2 ∨ i = 3 ∨ i = 4 ∨ i = 5 ∨ i = 6 ∨ i = 7 ∨ i = 8 ∨ i = 9 ∨ i = 10 ∨ i = 11 ∨ i = 12 ∨ i = 13 ∨ i = 14 ∨ i = 15 := by omega
  rcases this with rfl | rfl | rfl | rfl | rfl | rfl | rfl | rfl | rfl | rfl | rfl | rfl | rfl | rfl | rfl | rfl <;> exact ⟨_, rfl⟩
theorem isNone_of {a b : Option Addr} (h : b = none ↔ a = none) : a.isNone = b.isNone := by
  cases a <;> cases b <;> simp_all

def RetSame (w : World) (e : Ending) (w' : World) : Prop := e = .returned (.bool true) ∧ Below w.heap.size w w'

theorem gen_world' {P : Program} {code : Code} {Q : Exit → Act → World → Prop} {a : Act} {W : World} (φ : World → Prop) (h : φ W) (h' : ∀ W', φ W' → Code.wp P code Q a W') : Code.wp P code Q a W := h' W h

set_option maxHeartbeats 4000000 in
set_option maxRecDepth 100000 in
theorem rest_any (x y : Pc) (T : Nat → Int) (M : Nat → Mk) (w : World) (hL : Like x y) (htn : x.tn ≤ 1048576) (hmn : x.mn ≤ 1048576)
    (t1 : Row w 0 x.ta x.tn (fun j => .int .i32 (T j))) (t2 : Row w 0 y.ta y.tn (fun j => .int .i32 (T j))) (m1 : Row w 0 x.ma (x.mn * 18) (mks M)) (m2 : Row w 0 y.ma (y.mn * 18) (mks M)) :
    Calls Try.prog 24 #[.agg x.list.toArray, .agg y.list.toArray] w fun e w' => RetSame w e w' := by
  have hs := site16_like hL.site
  have hby := site16_bytes x
  have n1 := isNone_of hL.tnil
  have n2 := isNone_of hL.mnil
  go_enter Try.func24, Try.ntmps24
  go_upto_region 1 with fail
  refine gen_world' (fun W => (∀ f, f < 31 → W.cell? ⟨w.heap.size, f, none⟩ = some (x.cell f)) ∧ (∀ f, f < 31 → W.cell? ⟨w.heap.size + 1, f, none⟩ = some (y.cell f)) ∧ Below w.heap.size w W ∧ w.heap.size + 2 ≤ W.heap.size) ?_ ?_
  · refine ⟨fun f hf => ?_, fun f hf => ?_, ((Below.refl _ _).alloc (Nat.le_refl _) _).alloc (by simp) _, by simp⟩
    · rw [World.cell?_alloc_old _ _ _ (by simp), World.cell?_alloc_new, List.getElem?_toArray, Pc.list_get x f hf]
    · have h := World.cell?_alloc_new (w.alloc (.cells x.list.toArray 70)) y.list.toArray 77 f
      have e : (w.alloc (.cells x.list.toArray 70)).heap.size = w.heap.size + 1 := by simp
      rw [e] at h
      rw [h, List.getElem?_toArray, Pc.list_get y f hf]
  rintro W ⟨hX, hY, hB, hsz⟩
  obtain ⟨xsite, xseq, xk, xta, xtn, xtc, xclock, xdel, xma, xmn, xmc, xnext, xpl, xpri, xsize⟩ := x
  obtain ⟨ysite, yseq, yk, yta, ytn, ytc, yclock, ydel, yma, ymn, ymc, ynext, ypl, ypri, ysize⟩ := y
  obtain ⟨_, e1, e2, e3, _, e4, e5, e6, _, e7, e8, e9⟩ := hL
  simp only at e1 e2 e3 e4 e5 e6 e7 e8 e9 n1 n2 t1 t2 m1 m2 htn hmn
  subst e1 e2 e3 e4 e5 e6 e7 e8 e9
  have rgx := Pc.range16 (o := 0) (fun f hf => by rw [Nat.zero_add]; exact hX f hf)
  have rgy := Pc.range16 (o := 0) (fun f hf => by rw [Nat.zero_add]; exact hY f hf)
  rw [hs] at rgy
  have hsl := Pc.site16_length ⟨xsite, yseq, yk, xta, ytn, xtc, yclock, ydel, xma, ymn, xmc, ynext, xpl, ypri, ysize⟩
  generalize Pc.site16 ⟨xsite, yseq, yk, xta, ytn, xtc, yclock, ydel, xma, ymn, xmc, ynext, xpl, ypri, ysize⟩ = S16 at rgx rgy hsl hby
  have Hrx : Hid (W.rangeAt w.heap.size 0 S16) := rgx
  have Hry : Hid (W.rangeAt (w.heap.size + 1) 0 S16) := rgy
  have Hby : Hid (∀ i, i < 16 → ∃ z, S16[i]? = some (.int .u8 z)) := hby
  have Hi22 : Hid ((Try.prog.info? 22).map (·.size) = some S16.length) := by rw [hsl]; exact Try.size22
  have Hi28 : Hid ((Try.prog.info? 28).map (·.size) = some S16.length) := by rw [hsl]; exact Try.size28
  clear rgx rgy hsl hby hs
  have x16 : W.cell? ⟨w.heap.size, 16, none⟩ = some (.int .u64 yseq) := hX 16 (by omega)
  have x17 : W.cell? ⟨w.heap.size, 17, none⟩ = some (.int .i64 yk) := hX 17 (by omega)
  have x18 : W.cell? ⟨w.heap.size, 18, none⟩ = some (.slice xta ytn xtc) := hX 18 (by omega)
  have x19 : W.cell? ⟨w.heap.size, 19, none⟩ = some (.int .u64 yclock) := hX 19 (by omega)
  have x20 : W.cell? ⟨w.heap.size, 20, none⟩ = some (.bool ydel) := hX 20 (by omega)
  have x21 : W.cell? ⟨w.heap.size, 21, none⟩ = some (.slice xma ymn xmc) := hX 21 (by omega)
  have x22 : W.cell? ⟨w.heap.size, 22, none⟩ = some (.int .i32 ynext) := hX 22 (by omega)
  have x29 : W.cell? ⟨w.heap.size, 29, none⟩ = some (.int .u64 ypri) := hX 29 (by omega)
  have x30 : W.cell? ⟨w.heap.size, 30, none⟩ = some (.int .i64 ysize) := hX 30 (by omega)
  have y16 : W.cell? ⟨w.heap.size + 1, 16, none⟩ = some (.int .u64 yseq) := hY 16 (by omega)
  have y17 : W.cell? ⟨w.heap.size + 1, 17, none⟩ = some (.int .i64 yk) := hY 17 (by omega)
  have y18 : W.cell? ⟨w.heap.size + 1, 18, none⟩ = some (.slice yta ytn ytc) := hY 18 (by omega)
  have y19 : W.cell? ⟨w.heap.size + 1, 19, none⟩ = some (.int .u64 yclock) := hY 19 (by omega)
  have y20 : W.cell? ⟨w.heap.size + 1, 20, none⟩ = some (.bool ydel) := hY 20 (by omega)
  have y21 : W.cell? ⟨w.heap.size + 1, 21, none⟩ = some (.slice yma ymn ymc) := hY 21 (by omega)
  have y22 : W.cell? ⟨w.heap.size + 1, 22, none⟩ = some (.int .i32 ynext) := hY 22 (by omega)
  have y29 : W.cell? ⟨w.heap.size + 1, 29, none⟩ = some (.int .u64 ypri) := hY 29 (by omega)
  have y30 : W.cell? ⟨w.heap.size + 1, 30, none⟩ = some (.int .i64 ysize) := hY 30 (by omega)
  have t1' := t1.below (Nat.le_refl _) hB
  have t2' := t2.below (Nat.le_refl _) hB
  have m1' := m1.below (Nat.le_refl _) hB
  have m2' := m2.below (Nat.le_refl _) hB
  clear hX hY t1 t2 m1 m2
  have q1 := fun w => Lib.run_eql_slice_nil (P := Try.prog) w 52 21 xta ytn xtc 0 0 Try.underlying52
  have q2 := fun w => Lib.run_eql_slice_nil (P := Try.prog) w 52 21 yta ytn ytc 0 0 Try.underlying52
  have q3 := fun w => Lib.run_eql_slice_nil (P := Try.prog) w 67 123 xma ymn xmc 0 0 Try.underlying67
  have q4 := fun w => Lib.run_eql_slice_nil (P := Try.prog) w 74 114 yma ymn ymc 0 0 Try.underlying74
  refine wp_region_plain_all ?_
  iterate 2 (go_big_quiet_step (fail))
  go_big_quiet_want
  refine quiet_load_mid 28 (.tmp 9) rfl (w.heap.size + 1) 0 rfl S16 _ Hry Try.underlying28 rfl Hi28 ?_
  go_simp
  go_big_quiet_on
  iterate 1 (go_big_quiet_step (fail))
  go_big_quiet_want
  refine quiet_load_mid 22 (.tmp 11) rfl w.heap.size 0 rfl S16 _ Hrx Try.underlying22 rfl Hi22 ?_
  go_simp
  go_big_quiet_on
  go_big_quiet_want
  refine quiet_neq22 (.tmp 10) (.tmp 12) 22 rfl S16 rfl rfl Hby ?_
  go_simp
  go_big_quiet_on
  iterate 15 (go_big_quiet_step (fail))
  refine wpQuiet_nil ?_
  intro wz hz
  obtain ⟨nq0, rfl⟩ := hz
  clear x16 x17 y16 y17
  go_wp2
  clear x19 x20 x22 x29 x30 y19 y20 y22 y29 y30 q1 q2
  go_loopg [5] ytn (fun q s5 wr => ∃ j : Nat, j ≤ ytn ∧ q = ytn - j ∧ s5 = .int .i64 j ∧ ∃ z, wr = W.drewN z)
  case atStart => exact ⟨0, Nat.zero_le _, rfl, rfl, _, rfl⟩
  case round =>
    obtain ⟨j, hj0, rfl, rfl, z, rfl⟩ := hrel
    by_cases hj : j < ytn
    · as_aux_lemma =>
        obtain ⟨b1, o1, ha1, hc1⟩ := t1'
        obtain ⟨b2, o2, ha2, hc2⟩ := t2'
        obtain ⟨rfl, _⟩ := ha1 (by omega)
        obtain ⟨rfl, _⟩ := ha2 (by omega)
        have d1 := hc1 j hj
        have d2 := hc2 j hj
        have hjz : (j : Int) < (ytn : Int) := by omega
        clear hc1 hc2 ha1 ha2 m1' m2'
        go_wp2
        go_quiet (fail)
        go_wp2
        go_roundg (ytn - (j + 1))
        case measure => go_light; omega
        case rel => go_light; exact ⟨j + 1, by omega, rfl, by go_num, _, rfl⟩
    · obtain rfl : ytn = j := by omega
      clear t1' t2'
      go_wp2
      clear q3 q4 x18 y18
      go_loopg [6] ymn (fun q s6 wr => ∃ j : Nat, j ≤ ymn ∧ q = ymn - j ∧ s6 = .int .i64 j ∧ Below W.heap.size W wr)
      case atStart => exact ⟨0, Nat.zero_le _, rfl, rfl, below_drewN (Below.refl _ _) _⟩
      case round =>
        obtain ⟨j, hj0, rfl, rfl, hBx⟩ := hrel
        have d21 : wr.cell? ⟨w.heap.size, 21, none⟩ = some (.slice xma ymn xmc) := (hBx.cell (p := ⟨w.heap.size, 21, none⟩) (by show w.heap.size < W.heap.size; omega)).trans x21
        have g21 : wr.cell? ⟨w.heap.size + 1, 21, none⟩ = some (.slice yma ymn ymc) := (hBx.cell (p := ⟨w.heap.size + 1, 21, none⟩) (by show w.heap.size + 1 < W.heap.size; omega)).trans y21
        by_cases hj : j < ymn
        · as_aux_lemma =>
            obtain ⟨b1, o1, ha1, hc1⟩ := m1'
            obtain ⟨b2, o2, ha2, hc2⟩ := m2'
            obtain ⟨rfl, _⟩ := ha1 (by omega)
            obtain ⟨rfl, _⟩ := ha2 (by omega)
            have hb1 : b1 < W.heap.size := World.block_lt_of_cell? _ _ (Row.mk hc1 hj 0 (by omega))
            have hb2 : b2 < W.heap.size := World.block_lt_of_cell? _ _ (Row.mk hc2 hj 0 (by omega))
            have f1 : ∀ f, f < 18 → W.cell? ⟨b1, o1 + j * 18 + f, none⟩ = some ((M j).cell f) := fun f hf => Row.mk hc1 hj f hf
            have f2 : ∀ f, f < 18 → wr.cell? ⟨b2, o2 + j * 18 + f, none⟩ = some ((M j).cell f) := fun f hf => (hBx.cell (p := ⟨b2, o2 + j * 18 + f, none⟩) hb2).trans (Row.mk hc2 hj f hf)
            have hms := msite16_bytes (M j)
            generalize M j = m at f1 f2 hms
            have rg2 : wr.rangeAt b2 (o2 + j * 18) m.list := fun i v hv => by
              have hi : i < 18 := by
                rcases Nat.lt_or_ge i 18 with h | h
                · exact h
                · rw [List.getElem?_eq_none (by rw [Mk.list_length]; exact h)] at hv; cases hv
              have : v = m.cell i := by simpa [Mk.list, hi] using hv.symm
              rw [this]
              exact f2 i hi
            have hm114 := Mk.size114 m
            have hjz : (j : Int) < (ymn : Int) := by omega
            have hws := hBx.size
            clear hc1 hc2 ha1 ha2 f2
            go_upto_region 18 with (first | (refine wpList_load_mid rfl 114 (.tmp 122) rfl b2 (o2 + j * 18) rfl m.list _ rg2 Try.underlying114 rfl hm114 ?_) | (refine wpList_store_mid rfl 114 (.tmp 7) (.tmp 123) rfl wr.heap.size 0 m.list.toArray rfl rfl ?_ (by rw [List.size_toArray]; exact hm114) (all_oneCell_toArray m.list_one) ?_))
            case refine_1 => exact rowIs_there (rowIs_new wr 114 _) (by rw [List.size_toArray, Mk.list_length]; simp)
            refine gen_world' (fun W' => (∀ f, f < 18 → W'.cell? ⟨wr.heap.size, f, none⟩ = some (m.cell f)) ∧ Below wr.heap.size wr W') ?_ ?_
            · refine ⟨fun f hf => ?_, setCells_below (Nat.le_refl _) _ ((Below.refl _ _).alloc (Nat.le_refl _) _)⟩
              have h0 := setCells_row m.list (o := 0) (rowIs_new wr 114 #[Value.int IntKind.u8 0, Value.int IntKind.u8 0, Value.int IntKind.u8 0, Value.int IntKind.u8 0, Value.int IntKind.u8 0, Value.int IntKind.u8 0, Value.int IntKind.u8 0, Value.int IntKind.u8 0, Value.int IntKind.u8 0, Value.int IntKind.u8 0, Value.int IntKind.u8 0, Value.int IntKind.u8 0, Value.int IntKind.u8 0, Value.int IntKind.u8 0, Value.int IntKind.u8 0, Value.int IntKind.u8 0, Value.int IntKind.u64 0, Value.bool false])
              refine (h0.cell (i := f) hf).trans ?_
              rw [if_pos ⟨Nat.zero_le _, by rw [Mk.list_length]; omega⟩, Nat.sub_zero, List.getD_eq_getElem?_getD]
              simp [Mk.list, hf]
            rintro W2 ⟨hm2, hB2⟩
            have hBW : Below W.heap.size W W2 := hBx.trans (hB2.mono hws)
            have g1 : ∀ f, f < 18 → W2.cell? ⟨b1, o1 + j * 18 + f, none⟩ = some (m.cell f) := fun f hf => (hBW.cell (p := ⟨b1, o1 + j * 18 + f, none⟩) hb1).trans (f1 f hf)
            have r1 : W2.rangeAt b1 (o1 + j * 18) m.site16 := mk_range g1
            have r2 : W2.rangeAt wr.heap.size 0 m.site16 := mk_range (fun f hf => by rw [Nat.zero_add]; exact hm2 f hf)
            have k1 : W2.cell? ⟨b1, o1 + j * 18 + 16, none⟩ = some (.int .u64 m.seq) := g1 16 (by omega)
            have k2 : W2.cell? ⟨b1, o1 + j * 18 + 17, none⟩ = some (.bool m.hide) := g1 17 (by omega)
            have k3 : W2.cell? ⟨wr.heap.size, 16, none⟩ = some (.int .u64 m.seq) := hm2 16 (by omega)
            have k4 : W2.cell? ⟨wr.heap.size, 17, none⟩ = some (.bool m.hide) := hm2 17 (by omega)
            have k5 : W2.cell? ⟨w.heap.size, 21, none⟩ = some (.slice (some ⟨b1, o1, none⟩) ymn xmc) := (hBW.cell (p := ⟨w.heap.size, 21, none⟩) (by show w.heap.size < W.heap.size; omega)).trans x21
            have hml : m.site16.length = 16 := by simp [Mk.site16]
            generalize m.site16 = S at r1 r2 hms hml
            generalize m.seq = sq at k1 k3
            generalize m.hide = hd at k2 k4
            have H1 : Hid (W2.rangeAt b1 (o1 + j * 18) S) := r1
            have H2 : Hid (W2.rangeAt wr.heap.size 0 S) := r2
            have Hms : Hid (∀ i, i < 16 → ∃ z, S[i]? = some (.int .u8 z)) := hms
            have Hi22' : Hid ((Try.prog.info? 22).map (·.size) = some S.length) := by rw [hml]; exact Try.size22
            have Hi28' : Hid ((Try.prog.info? 28).map (·.size) = some S.length) := by rw [hml]; exact Try.size28
            clear g1 r1 r2 hms hml hm2 f1 rg2 hm114 d21 g21
            dsimp only [Act.put]
            refine wp_region_quiet_lit (by kernel_rfl) (by kernel_rfl) ?_
            iterate 2 (go_big_quiet_step (fail))
            go_big_quiet_want
            refine quiet_load_mid 28 (.tmp 125) rfl wr.heap.size 0 rfl S _ H2 Try.underlying28 rfl Hi28' ?_
            go_simp
            go_big_quiet_on
            iterate 5 (go_big_quiet_step (fail))
            go_big_quiet_want
            refine quiet_load_mid 22 (.tmp 131) rfl b1 (o1 + j * 18) rfl S _ H1 Try.underlying22 rfl Hi22' ?_
            go_simp
            go_big_quiet_on
            go_big_quiet_want
            refine quiet_neq22 (.tmp 126) (.tmp 132) 22 rfl S rfl rfl Hms ?_
            go_simp
            go_big_quiet_on
            iterate 23 (go_big_quiet_step (fail))
            refine wpQuiet_nil ?_
            intro wz hz
            obtain ⟨nq, rfl⟩ := hz
            go_wp2
            go_roundg (ymn - (j + 1))
            case measure => go_light; omega
            case rel => go_light; exact ⟨j + 1, by omega, rfl, by go_num, below_drewN hBW nq⟩
        · as_aux_lemma =>
            obtain rfl : ymn = j := by omega
            go_wp2
            go_ret
            exact ⟨rfl, hB.trans (hBx.mono hB.size)⟩
end Go.Proofs.Qxb6601797a
