/- Walk: zzB1SideCounts. -/
import Derived.Test.Qxb6601698aSearch
import Derived.WalkSmall
import Derived.Deep.DeepCutAuto
namespace Go.Proofs.Qxb6601698a
open Go.RowKit Go.Maps

/-- the call's own memory while it searches: the marks, the stack -/
structure SI (w wr : World) (k : Nat) (on : Nat → Bool) (v : Value) (ws : List Int) : Prop where
  row : wr.rowIs w.heap.size 4 k (fun c => .bool (on c))
  own : wr.ownsRow (w.heap.size + 1) 3 1 v ws.length (ws.map (Value.int .i64))
  below : Below w.heap.size w wr
  size : w.heap.size + 1 ≤ wr.heap.size
theorem SI.congr {w wr : World} {k : Nat} {on on' : Nat → Bool} {v : Value} {ws : List Int} (h : SI w wr k on v ws) (e : ∀ c, on c = on' c) : SI w wr k on' v ws :=
  ⟨h.row.congr (fun c _ => by rw [e c]), h.own, h.below, h.size⟩
theorem SI.set {w wr : World} {k : Nat} {on : Nat → Bool} {v : Value} {ws : List Int} (h : SI w wr k on v ws) (e : Nat) : SI w (wr.setCell ⟨w.heap.size, e, none⟩ (.bool true)) k (upd on e) v ws :=
  ⟨(h.row.set e _).congr (fun c _ => by unfold upd; split <;> rfl), ownsRow_setCell_below h.own (by show w.heap.size < w.heap.size + 1; omega) _, h.below.setCell (Nat.le_refl _) _, by simpa using h.size⟩
theorem SI.alloc {w wr : World} {k : Nat} {on : Nat → Bool} {v : Value} {ws : List Int} (h : SI w wr k on v ws) (o : Obj) : SI w (wr.alloc o) k on v ws :=
  ⟨h.row.alloc o, h.own.alloc o, h.below.alloc h.below.size o, by have := h.size; simp; omega⟩
theorem SI.app {w wr w1 : World} {k : Nat} {on : Nat → Bool} {v v' : Value} {ws : List Int} {y : Int} (h : SI w wr k on v ws) (ho : w1.ownsRow (w.heap.size + 1) 3 1 v' (ws.length + 1) (ws.map (Value.int .i64) ++ [Value.int .i64 y])) (hg : wr.grownBy w1 v.ownBlock) :
    SI w w1 k on v' (ws ++ [y]) := by
  have hl := h.own.lt
  have hs := h.size
  refine ⟨h.row.of_block (hg.block _ (by omega) (fun e => by have := (hl _ e.symm).1; omega)), by simpa using ho, h.below.grown hg h.below.size (fun b hb => by have := (hl b hb).1; omega), Nat.le_trans hs hg.size⟩
theorem SI.shape {w wr : World} {k : Nat} {on : Nat → Bool} {v : Value} {ws : List Int} {y : Int} (h : SI w wr k on v (ws ++ [y])) :
    ∃ b cap, v = .slice (some ⟨b, 0, none⟩) (ws.length + 1) cap ∧ ws.length + 1 ≤ cap ∧ wr.cell? ⟨b, ws.length, none⟩ = some (.int .i64 y) ∧ SI w wr k on (.slice (some ⟨b, 0, none⟩) ws.length cap) ws := by
  have ho := h.own
  simp only [List.length_append, List.length_singleton, List.map_append, List.map_cons, List.map_nil] at ho
  rcases ho.2 with ⟨_, h0⟩ | ⟨b, cap, cur, rfl, hb, hh, hn, hc, hs, ht⟩
  · omega
  · refine ⟨b, cap, rfl, hn, ?_, h.row, ownsRow_pop (by simp) ho, h.below, h.size⟩
    rw [ho.cellAt ws.length (by omega)]
    simp

/-- what zzB1SideCounts hands back -/
def RetSide (w : World) (n k : Nat) (Cm : Nat → Int) (Ls : Nat → Nat) (Zs : Nat → Nat → Int) (g : Nat → Int) (nx : Nat → List Int) (e : Ending) (w' : World) : Prop :=
  ∃ (on : Nat → Bool) (b : Nat), e = .returned (.slice (some ⟨b, 0, none⟩) k k) ∧ Row w' w.heap.size (some ⟨b, 0, none⟩) k (fun c => .int .i64 (expAt Cm Ls Zs on g n c)) ∧ OnOk k g nx on ∧ Below w.heap.size w w'

set_option maxHeartbeats 8000000 in
set_option maxRecDepth 100000 in
theorem side_any (ag am ast ac : Option Addr) (n k cg cm cs cc : Nat) (Ls Lm : Nat → Nat) (Zs Zm : Nat → Nat → Int) (Cm : Nat → Int) (g : Nat → Int) (w : World)
    (hn : n ≤ 65536) (hk : k ≤ 65536) (hLs : ∀ i, i < n → Ls i ≤ 1048576) (hLm : ∀ i, i < k → Lm i ≤ 1048576)
    (hcomp : ∀ v, v < n → 0 ≤ Cm v ∧ Cm v < k) (hmem : ∀ c, c < k → ∀ j, j < Lm c → 0 ≤ Zm c j ∧ Zm c j < n) (hst : ∀ v, v < n → ∀ j, j < Ls v → 0 ≤ Zs v j ∧ Zs v j < n)
    (hG : Row w 0 ag k (fun i => .int .i64 (g i))) (hDm : Mat w 0 am k Lm Zm) (hDs : Mat w 0 ast n Ls Zs) (hC : Row w 0 ac n (fun i => .int .i64 (Cm i))) :
    Calls Try.prog 20 #[.slice ag k cg, .slice am k cm, .slice ast n cs, .slice ac n cc] w fun e w' =>
      RetSide w n k Cm Ls Zs g (fun c => nextAll Cm c Ls Zs (Zm c) (Lm c)) e w' := by
  obtain ⟨bg, og, hag, hcg⟩ := hG
  obtain ⟨bc, oc, hac, hcc⟩ := hC
  obtain ⟨As, Cs, ⟨bs, os, has, hcs⟩, hsr⟩ := hDs
  obtain ⟨Am, Cmm, ⟨bm, om, ham, hcm⟩, hmr⟩ := hDm
  obtain ⟨i0, hi, hz0, hz1, hz2⟩ := info_parts Try.info3
  have hmk := run_make_row' (P := Try.prog) 57 4 (.bool false) 1 Try.underlying57 Try.info4 rfl .i64 .i64 k (by omega) (by omega)
  go_enter Try.func20, Try.ntmps20
  go_wp2
  clear hmk
  -- the components that the group holds
  go_loopg [12, 11] k (fun q s12 s11 wr => ∃ c : Nat, c ≤ k ∧ q = k - c ∧ s12 = .int .i64 c ∧ SI w wr k (on0 g c) s11 (ws0 g c))
  case atStart => exact ⟨0, Nat.zero_le _, rfl, rfl, ⟨(World.rowIs_made w _ k 4).congr (fun c _ => by simp [on0]), World.ownsRow_nil _ _ _ _, (Below.refl _ _).alloc (Nat.le_refl _) _, by simp⟩⟩
  case round =>
    obtain ⟨c, hck0, rfl, rfl, hS⟩ := hrel
    by_cases hck : c < k
    · obtain ⟨rfl, _⟩ := hag (by omega)
      have hbl : bg < w.heap.size := World.block_lt_of_cell? _ _ (hcg c hck)
      have h1 : wr.cell? ⟨bg, og + c, none⟩ = some (.int .i64 (g c)) := (hS.below.cell (p := ⟨bg, og + c, none⟩) hbl).trans (hcg c hck)
      have h2 := hS.row.cell hck
      have h3 := hS.row.frozen c
      have hwl := ws0_len g c
      have hsz := hS.size
      by_cases hpos : 0 < g c
      · have hS1 := hS.set c
        have e1 : ws0 g (c + 1) = ws0 g c ++ [(c : Int)] := by rw [ws0, if_pos hpos]
        have He : Hid (ws0 g (c + 1) = ws0 g c ++ [(c : Int)] ∧ ∀ d, upd (on0 g c) c d = on0 g (c + 1) d) := ⟨e1, fun d => (on0_hit hpos d).symm⟩
        clear e1
        generalize hxs : ws0 g c = xs at hS1 hwl He
        clear hxs hS
        go_upto_region 9 with fail
        generalize wr.setCell ⟨w.heap.size, c, none⟩ (.bool true) = W1 at hS1 ⊢
        have hown := hS1.own
        have hsz := hS1.size
        clear h1 h2 h3
        go_wp2_with (at_builtin; refine wpList_append_own _ rfl _ _ 25 rfl (w.heap.size + 1) 3 i0 (.int .i64 0) 1 8 Try.underlying25 hi hz0 hz1 hz2 rfl (by decide) _ _ _ rfl (hown.alloc _) ⟨W1.heap.size, 0, none⟩ 1 1 [.int .i64 c] rfl rfl (cell_one_new _ _ _) (ints_oneCell .i64 [(c : Int)]) (by unfold maxLen; omega) (by omega) (by simp; omega) ?_; intro v' w1 hown' hgrow hnil)
        have hS2 := (hS1.alloc _).app hown' hgrow
        clear hown hown' hgrow hS1
        go_wp2
        go_roundg (k - (c + 1))
        case measure => go_light; omega
        case rel => go_light; exact ⟨c + 1, by omega, rfl, by go_num, by rw [He.out.1]; exact hS2.congr He.out.2⟩
      · have e1 : ws0 g (c + 1) = ws0 g c := by rw [ws0, if_neg hpos]
        have He : Hid (ws0 g (c + 1) = ws0 g c ∧ ∀ d, on0 g c d = on0 g (c + 1) d) := ⟨e1, fun d => (on0_miss hpos d).symm⟩
        clear e1
        go_wp2
        go_roundg (k - (c + 1))
        case measure => go_light; omega
        case rel => go_light; exact ⟨c + 1, by omega, rfl, by go_num, by rw [He.out.1]; exact hS.congr He.out.2⟩
    · obtain rfl : k = c := by omega
      have hR := Srch.init k g (fun c => nextAll Cm c Ls Zs (Zm c) (Lm c))
      generalize on0 g k = on at hS hR
      generalize ws0 g k = ws at hS hR
      go_wp2
      -- the search
      go_loopg [11] k (fun q s11 wx => q ≤ k ∧ ∃ (on : Nat → Bool) (ws : List Int), SI w wx k on s11 ws ∧ Srch k g (fun c => nextAll Cm c Ls Zs (Zm c) (Lm c)) on ws (fun _ => False) q)
      case atStart => exact ⟨Nat.le_refl _, on, ws, hS, hR⟩
      case round =>
        clear hS hR
        obtain ⟨hq, on, ws, hS, hR⟩ := hrel
        rcases List.eq_nil_or_concat ws with rfl | ⟨ws1, y, rfl⟩
        · -- the stack is empty: the counts
          have hOn := hR.finish
          obtain ⟨a', cap', hsv, _⟩ := owned_shape hS.own
          simp only [List.length_nil] at hsv
          subst hsv
          have hrow := hS.row
          have hbl := hS.below
          have hlt := hS.row.lt
          clear hS hR
          obtain ⟨W3, rfl⟩ : ∃ W3 : World, W3 = wr := ⟨_, rfl⟩
          have hmk := run_make_row' (P := Try.prog) 25 3 (.int .i64 0) 8 Try.underlying25 Try.info3 rfl .i64 .i64 k (by omega) (by omega)
          go_wp2
          clear hmk
          go_loopg [20] k (fun q s20 wx => ∃ c : Nat, c ≤ k ∧ q = k - c ∧ s20 = .int .i64 c ∧ Copied W3 wx 3 k c (fun c => .int .i64 (g c)) (.int .i64 0))
          case atStart => exact ⟨0, Nat.zero_le _, rfl, rfl, Copied.start _ _ _ _ _⟩
          case round =>
            obtain ⟨c, hck0, rfl, rfl, hCo⟩ := hrel
            by_cases hck : c < k
            · obtain ⟨rfl, _⟩ := hag (by omega)
              have hbg : bg < w.heap.size := World.block_lt_of_cell? _ _ (hcg c hck)
              have h1 : wr.cell? ⟨bg, og + c, none⟩ = some (.int .i64 (g c)) := (hCo.2.cell (p := ⟨bg, og + c, none⟩) (by show bg < W3.heap.size; omega)).trans ((hbl.cell (p := ⟨bg, og + c, none⟩) hbg).trans (hcg c hck))
              have h2 := hCo.1.cell hck
              have h3 := hCo.1.frozen c
              go_wp2
              go_roundg (k - (c + 1))
              case measure => go_light; omega
              case rel => go_light; exact ⟨c + 1, by omega, rfl, by go_num, hCo.step⟩
            · obtain rfl : k = c := by omega
              have hexp : wr.rowIs W3.heap.size 3 k (fun c => .int .i64 (expAt Cm Ls Zs on g 0 c)) := hCo.1.congr (fun c hc => by rw [if_pos hc]; rfl)
              have hbw := hCo.2
              clear hCo
              go_wp2
              go_loopg [21, 22, 23, 24, 25] n (fun q s21 s22 s23 s24 s25 wx => ∃ m : Nat, m ≤ n ∧ q = n - m ∧ s21 = .int .i64 m ∧ wx.rowIs W3.heap.size 3 k (fun c => .int .i64 (expAt Cm Ls Zs on g m c)) ∧ Below W3.heap.size W3 wx)
              case atStart => exact ⟨0, Nat.zero_le _, rfl, rfl, hexp, hbw⟩
              case round =>
                clear hexp hbw
                obtain ⟨m, hm0, rfl, rfl, hexp, hbw⟩ := hrel
                by_cases hm : m < n
                · obtain ⟨hc0, hc1⟩ := hcomp m hm
                  obtain ⟨e, he⟩ := Int.eq_ofNat_of_zero_le hc0
                  have hek : e < k := by omega
                  obtain ⟨rfl, _⟩ := hac (by omega)
                  obtain ⟨rfl, _⟩ := has (by omega)
                  have hbc : bc < w.heap.size := World.block_lt_of_cell? _ _ (hcc m hm)
                  have hbs : bs < w.heap.size := World.block_lt_of_cell? _ _ (hcs m hm)
                  have h1 : wr.cell? ⟨bc, oc + m, none⟩ = some (.int .i64 e) := by rw [← he]; exact (hbw.cell (p := ⟨bc, oc + m, none⟩) (by show bc < W3.heap.size; omega)).trans ((hbl.cell (p := ⟨bc, oc + m, none⟩) hbc).trans (hcc m hm))
                  have h2 : wr.cell? ⟨bs, os + m, none⟩ = some (.slice (As m) (Ls m) (Cs m)) := (hbw.cell (p := ⟨bs, os + m, none⟩) (by show bs < W3.heap.size; omega)).trans ((hbl.cell (p := ⟨bs, os + m, none⟩) hbs).trans (hcs m hm))
                  have h3 : wr.cell? ⟨w.heap.size, e, none⟩ = some (.bool (on e)) := (hbw.cell (p := ⟨w.heap.size, e, none⟩) hlt).trans (hrow.cell hek)
                  have hLm' := hLs m hm
                  have hm1 := hsr m hm
                  obtain ⟨Av, hAv⟩ : ∃ x, As m = x := ⟨_, rfl⟩
                  rw [hAv] at h2 hm1
                  clear hAv
                  obtain ⟨b2, o2, ha2, hc2⟩ := hm1
                  have hez : (e : Int) < (k : Int) := by omega
                  have hmz : (m : Int) < (n : Int) := by omega
                  have He : Hid (Cm m = e) := he
                  clear he hc0 hc1
                  cases hon : on e
                  · rw [hon] at h3
                    have Hon : Hid (on e = false) := hon
                    clear hon h2
                    go_wp2
                    go_roundg (n - (m + 1))
                    case measure => go_light; omega
                    case rel =>
                      go_light
                      refine ⟨m + 1, by omega, rfl, by go_num, ?_, hbw⟩
                      have e1 : expAt Cm Ls Zs on g (m + 1) = expAt Cm Ls Zs on g m := by rw [expAt, He.out, Int.toNat_natCast, Hon.out]; rfl
                      rw [e1]
                      exact hexp
                  · rw [hon] at h3
                    have Hon : Hid (on e = true) := hon
                    clear hon
                    obtain ⟨f, hf⟩ : ∃ f, f = expAt Cm Ls Zs on g m := ⟨_, rfl⟩
                    rw [← hf] at hexp
                    have Hf : Hid (expAt Cm Ls Zs on g (m + 1) = bumps f (nextRow Cm e (Zs m) (Ls m))) := by
                      unfold Hid; rw [expAt, He.out, Int.toNat_natCast, Hon.out, ← hf]; rfl
                    clear hf
                    go_wp2
                    clear h1 h2 h3
                    go_loopg [24, 25] (Ls m) (fun q s24 s25 wx => ∃ t : Nat, t ≤ Ls m ∧ q = Ls m - t ∧ s24 = .int .i64 t ∧ wx.rowIs W3.heap.size 3 k (fun c => .int .i64 (bumps f (nextRow Cm e (Zs m) t) c)) ∧ Below W3.heap.size W3 wx)
                    case atStart => exact ⟨0, Nat.zero_le _, rfl, rfl, hexp, hbw⟩
                    case round =>
                      clear hexp hbw
                      obtain ⟨t, ht0, rfl, rfl, hexp, hbw⟩ := hrel
                      by_cases ht : t < Ls m
                      · obtain ⟨hd0, hdn0⟩ := hst m hm t ht
                        obtain ⟨d, hd⟩ := Int.eq_ofNat_of_zero_le hd0
                        have hdn : d < n := by omega
                        obtain ⟨hx0, hxk0⟩ := hcomp d hdn
                        obtain ⟨x, hx⟩ := Int.eq_ofNat_of_zero_le hx0
                        have hxk : x < k := by omega
                        obtain ⟨rfl, _⟩ := ha2 (by omega)
                        have hb2 : b2 < w.heap.size := World.block_lt_of_cell? _ _ (hc2 t ht)
                        have h1 : wr.cell? ⟨b2, o2 + t, none⟩ = some (.int .i64 d) := by rw [← hd]; exact (hbw.cell (p := ⟨b2, o2 + t, none⟩) (by show b2 < W3.heap.size; omega)).trans ((hbl.cell (p := ⟨b2, o2 + t, none⟩) hb2).trans (hc2 t ht))
                        have h2 : wr.cell? ⟨bc, oc + d, none⟩ = some (.int .i64 x) := by rw [← hx]; exact (hbw.cell (p := ⟨bc, oc + d, none⟩) (by show bc < W3.heap.size; omega)).trans ((hbl.cell (p := ⟨bc, oc + d, none⟩) hbc).trans (hcc d hdn))
                        have h3 := hexp.cell hxk
                        have h4 := hexp.frozen x
                        have hdz : (d : Int) < (n : Int) := by omega
                        have hxz : (x : Int) < (k : Int) := by omega
                        have Hd : Hid (Zs m t = d ∧ Cm d = x) := ⟨hd, hx⟩
                        clear hd hd0 hdn0 hx hx0 hxk0
                        by_cases hxe : x = e
                        · have hb : ((x : Int) != (e : Int)) = false := by simp; omega
                          have Hxe : Hid (x = e) := hxe
                          clear hxe
                          go_wp2
                          go_roundg (Ls m - (t + 1))
                          case measure => go_light; omega
                          case rel =>
                            go_light
                            obtain ⟨hd, hx⟩ := Hd.out
                            refine ⟨t + 1, by omega, rfl, by go_num, ?_, hbw⟩
                            have e1 : nextRow Cm e (Zs m) (t + 1) = nextRow Cm e (Zs m) t := by rw [nextRow, hd, Int.toNat_natCast, hx, if_pos (by have := Hxe.out; omega), List.append_nil]
                            rw [e1]
                            exact hexp
                        · have hb : ((x : Int) != (e : Int)) = true := by simp; omega
                          have Hxe : Hid (¬ x = e) := hxe
                          clear hxe
                          go_wp2
                          go_roundg (Ls m - (t + 1))
                          case measure => go_light; omega
                          case rel =>
                            go_light
                            obtain ⟨hd, hx⟩ := Hd.out
                            refine ⟨t + 1, by omega, rfl, by go_num, (hexp.set x _).congr (fun c _ => ?_), hbw.setCell (Nat.le_refl _) _⟩
                            have e1 : nextRow Cm e (Zs m) (t + 1) = nextRow Cm e (Zs m) t ++ [(x : Int)] := by rw [nextRow, hd, Int.toNat_natCast, hx, if_neg (by have := Hxe.out; omega)]
                            rw [e1]
                            unfold bumps
                            rw [List.foldl_append]
                            simp only [List.foldl_cons, List.foldl_nil, Int.toNat_natCast]
                            unfold bump
                            split <;> rfl
                      · obtain rfl : Ls m = t := by omega
                        go_wp2
                        go_roundg (n - (m + 1))
                        case measure => go_light; omega
                        case rel =>
                          go_light
                          refine ⟨m + 1, by omega, rfl, by go_num, ?_, hbw⟩
                          rw [Hf.out]
                          exact hexp
                · obtain rfl : n = m := by omega
                  go_wp2
                  go_ret
                  exact ⟨on, W3.heap.size, rfl, Row.of_rowIs hexp hbl.size, hOn, hbl.trans (hbw.mono hbl.size)⟩
        · rw [List.concat_eq_append] at hS hR
          have hy := hR.mem y (by simp)
          obtain ⟨c, rfl⟩ := Int.eq_ofNat_of_zero_le hy.1
          obtain ⟨b, cap, hsv, hcap, hcell, hS1⟩ := hS.shape
          obtain ⟨hR1, hM0, hck, honc⟩ := hR.pop
          have hl0 : ws1.length ≤ 65536 := by have := hR1.meas; omega
          obtain ⟨l, hl⟩ : ∃ l, l = ws1.length := ⟨_, rfl⟩
          rw [← hl] at hcell hcap hl0 hsv
          subst hsv
          have hS1' : SI w wr k on (.slice (some ⟨b, 0, none⟩) l cap) ws1 := by rw [hl]; exact hS1
          clear hS hS1 hR hy hl
          have hcz : (c : Int) < (k : Int) := by omega
          have hncap : ¬ cap = 0 := by omega
          obtain ⟨rfl, _⟩ := ham (by omega)
          have hblm : bm < w.heap.size := World.block_lt_of_cell? _ _ (hcm c hck)
          have h1 : wr.cell? ⟨bm, om + c, none⟩ = some (.slice (Am c) (Lm c) (Cmm c)) := (hS1'.below.cell (p := ⟨bm, om + c, none⟩) hblm).trans (hcm c hck)
          have hm1 := hmr c hck
          obtain ⟨Ac, hAc⟩ : ∃ x, Am c = x := ⟨_, rfl⟩
          rw [hAc] at hm1 h1
          clear hAc
          obtain ⟨b1, o1, ha1, hc1⟩ := hm1
          have hLc := hLm c hck
          go_wp2
          clear h1 hcell hcap
          go_loopg [15, 11, 16, 17, 18] (Lm c) (fun q s15 s11 s16 s17 s18 wx => ∃ j : Nat, j ≤ Lm c ∧ q = Lm c - j ∧ s15 = .int .i64 j ∧ ∃ (on : Nat → Bool) (ws : List Int), SI w wx k on s11 ws ∧
            Srch k g (fun c => nextAll Cm c Ls Zs (Zm c) (Lm c)) on ws (fun x => x = c) (gk - 1) ∧ on c = true ∧ ∀ i, i < j → ∀ t, t < Ls (Zm c i).toNat → on (Cm (Zs (Zm c i).toNat t).toNat).toNat = true)
          case atStart => exact ⟨0, Nat.zero_le _, rfl, rfl, on, ws1, hS1', hR1, honc, fun i hi => absurd hi (Nat.not_lt_zero _)⟩
          case round =>
            clear hS1' hR1 honc
            obtain ⟨j, hj0, rfl, rfl, on, ws, hS, hR, honc, hcl⟩ := hrel
            have HR : Hid (Srch k g (fun c => nextAll Cm c Ls Zs (Zm c) (Lm c)) on ws (fun x => x = c) (gk - 1) ∧ on c = true ∧ ∀ i, i < j → ∀ t, t < Ls (Zm c i).toNat → on (Cm (Zs (Zm c i).toNat t).toNat).toNat = true) := ⟨hR, honc, hcl⟩
            clear hR honc hcl
            by_cases hj : j < Lm c
            · obtain ⟨hm0, hmn0⟩ := hmem c hck j hj
              obtain ⟨m, hm⟩ := Int.eq_ofNat_of_zero_le hm0
              have hmn : m < n := by omega
              obtain ⟨rfl, _⟩ := ha1 (by omega)
              obtain ⟨rfl, _⟩ := has (by omega)
              have hb1 : b1 < w.heap.size := World.block_lt_of_cell? _ _ (hc1 j hj)
              have hbs : bs < w.heap.size := World.block_lt_of_cell? _ _ (hcs m hmn)
              have h1 : wr.cell? ⟨b1, o1 + j, none⟩ = some (.int .i64 m) := by rw [← hm]; exact (hS.below.cell (p := ⟨b1, o1 + j, none⟩) hb1).trans (hc1 j hj)
              have h2 : wr.cell? ⟨bs, os + m, none⟩ = some (.slice (As m) (Ls m) (Cs m)) := (hS.below.cell (p := ⟨bs, os + m, none⟩) hbs).trans (hcs m hmn)
              have hLm' := hLs m hmn
              have hm1 := hsr m hmn
              obtain ⟨Av, hAv⟩ : ∃ x, As m = x := ⟨_, rfl⟩
              rw [hAv] at h2 hm1
              clear hAv
              obtain ⟨b2, o2, ha2, hc2⟩ := hm1
              have Hm : Hid (Zm c j = m) := hm
              have hmz : (m : Int) < (n : Int) := by omega
              clear hm hm0 hmn0
              go_wp2
              clear h1 h2
              go_loopg [17, 11, 18] (Ls m) (fun q s17 s11 s18 wx => ∃ t : Nat, t ≤ Ls m ∧ q = Ls m - t ∧ s17 = .int .i64 t ∧ ∃ (on : Nat → Bool) (ws : List Int), SI w wx k on s11 ws ∧
                (Srch k g (fun c => nextAll Cm c Ls Zs (Zm c) (Lm c)) on ws (fun x => x = c) (gk - 1) ∧ on c = true ∧ ∀ i, i < j → ∀ t, t < Ls (Zm c i).toNat → on (Cm (Zs (Zm c i).toNat t).toNat).toNat = true) ∧ ∀ i, i < t → on (Cm (Zs m i).toNat).toNat = true)
              case atStart => exact ⟨0, Nat.zero_le _, rfl, rfl, on, ws, hS, HR.out, fun i hi => absurd hi (Nat.not_lt_zero _)⟩
              case round =>
                clear HR hS
                obtain ⟨t, ht0, rfl, rfl, on, ws, hS, hR, hcl⟩ := hrel
                have hwl : ws.length ≤ 65536 := by have := hR.1.meas; omega
                have HR : Hid ((Srch k g (fun c => nextAll Cm c Ls Zs (Zm c) (Lm c)) on ws (fun x => x = c) (gk - 1) ∧ on c = true ∧ ∀ i, i < j → ∀ t, t < Ls (Zm c i).toNat → on (Cm (Zs (Zm c i).toNat t).toNat).toNat = true) ∧ ∀ i, i < t → on (Cm (Zs m i).toNat).toNat = true) := ⟨hR, hcl⟩
                clear hR hcl
                by_cases ht : t < Ls m
                · obtain ⟨hd0, hdn0⟩ := hst m hmn t ht
                  obtain ⟨d, hd⟩ := Int.eq_ofNat_of_zero_le hd0
                  have hdn : d < n := by omega
                  obtain ⟨he0, hek0⟩ := hcomp d hdn
                  obtain ⟨e, he⟩ := Int.eq_ofNat_of_zero_le he0
                  have hek : e < k := by omega
                  obtain ⟨rfl, _⟩ := ha2 (by omega)
                  obtain ⟨rfl, _⟩ := hac (by omega)
                  have hb2 : b2 < w.heap.size := World.block_lt_of_cell? _ _ (hc2 t ht)
                  have hbc : bc < w.heap.size := World.block_lt_of_cell? _ _ (hcc d hdn)
                  have h1 : wr.cell? ⟨b2, o2 + t, none⟩ = some (.int .i64 d) := by rw [← hd]; exact (hS.below.cell (p := ⟨b2, o2 + t, none⟩) hb2).trans (hc2 t ht)
                  have h2 : wr.cell? ⟨bc, oc + d, none⟩ = some (.int .i64 e) := by rw [← he]; exact (hS.below.cell (p := ⟨bc, oc + d, none⟩) hbc).trans (hcc d hdn)
                  have h3 := hS.row.cell hek
                  have h4 := hS.row.frozen e
                  have hdz : (d : Int) < (n : Int) := by omega
                  have hez : (e : Int) < (k : Int) := by omega
                  have Hd : Hid (Zs m t = d ∧ Cm d = e) := ⟨hd, he⟩
                  clear hd hd0 hdn0 he he0 hek0
                  cases hon : on e
                  · rw [hon] at h3
                    have Hon : Hid (on e = false) := hon
                    clear hon
                    have hS1 := hS.set e
                    go_upto_region 24 with fail
                    generalize wr.setCell ⟨w.heap.size, e, none⟩ (.bool true) = W1 at hS1 ⊢
                    have hown := hS1.own
                    have hsz := hS1.size
                    clear h1 h2 h3 h4
                    go_wp2_with (at_builtin; refine wpList_append_own _ rfl _ _ 25 rfl (w.heap.size + 1) 3 i0 (.int .i64 0) 1 8 Try.underlying25 hi hz0 hz1 hz2 rfl (by decide) _ _ _ rfl (hown.alloc _) ⟨W1.heap.size, 0, none⟩ 1 1 [.int .i64 e] rfl rfl (cell_one_new _ _ _) (ints_oneCell .i64 [(e : Int)]) (by unfold maxLen; omega) (by omega) (by simp; omega) ?_; intro v' w1 hown' hgrow hnil)
                    have hS2 := (hS1.alloc _).app hown' hgrow
                    clear hown hown' hgrow hS1
                    go_wp2
                    go_roundg (Ls m - (t + 1))
                    case measure => go_light; omega
                    case rel =>
                      go_light
                      obtain ⟨⟨hR, honc, hcl1⟩, hcl2⟩ := HR.out
                      have hm := Hm.out
                      obtain ⟨hd, he⟩ := Hd.out
                      refine ⟨t + 1, by omega, rfl, by go_num, upd on e, ws ++ [(e : Int)], hS2, ⟨hR.push hck honc hek Hon.out (fun hne => ?_), upd_true honc, fun i hi t ht => upd_true (hcl1 i hi t ht)⟩, fun i hi => ?_⟩
                      · have h5 := nextAll_has (Cm := Cm) (c := c) (Ls := Ls) (Zs := Zs) (Zc := Zm c) (Lm c) j t hj (by rw [hm]; simpa using ht) (by rw [hm, Int.toNat_natCast, hd, Int.toNat_natCast, he]; omega)
                        rw [hm, Int.toNat_natCast, hd, Int.toNat_natCast, he] at h5
                        exact h5
                      · by_cases e1 : i = t
                        · subst e1
                          rw [hd, Int.toNat_natCast, he, Int.toNat_natCast]
                          exact upd_self on e
                        · exact upd_true (hcl2 i (by omega))
                  · rw [hon] at h3
                    have Hon : Hid (on e = true) := hon
                    clear hon
                    go_wp2
                    go_roundg (Ls m - (t + 1))
                    case measure => go_light; omega
                    case rel =>
                      go_light
                      obtain ⟨hR, hcl2⟩ := HR.out
                      obtain ⟨hd, he⟩ := Hd.out
                      refine ⟨t + 1, by omega, rfl, by go_num, on, ws, hS, hR, fun i hi => ?_⟩
                      by_cases e1 : i = t
                      · subst e1
                        rw [hd, Int.toNat_natCast, he, Int.toNat_natCast]
                        exact Hon.out
                      · exact hcl2 i (by omega)
                · obtain rfl : Ls m = t := by omega
                  go_wp2
                  go_roundg (Lm c - (j + 1))
                  case measure => go_light; omega
                  case rel =>
                    go_light
                    obtain ⟨⟨hR, honc, hcl1⟩, hcl2⟩ := HR.out
                    refine ⟨j + 1, by omega, rfl, by go_num, on, ws, hS, hR, honc, fun i hi => ?_⟩
                    by_cases e1 : i = j
                    · subst e1
                      rw [Hm.out, Int.toNat_natCast]
                      exact hcl2
                    · exact hcl1 i (by omega)
            · obtain rfl : Lm c = j := by omega
              go_wp2
              go_roundg (gk - 1)
              case measure => go_light; omega
              case rel =>
                go_light
                obtain ⟨hR, honc, hcl⟩ := HR.out
                refine ⟨by omega, on, ws, hS, hR.done (fun y hy => ?_)⟩
                obtain ⟨_, i, t, hi, ht, rfl⟩ := nextAll_form _ y hy
                exact hcl i hi t ht
end Go.Proofs.Qxb6601698a
