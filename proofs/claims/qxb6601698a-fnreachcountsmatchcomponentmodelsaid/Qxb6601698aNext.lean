/- Walk: (Links).nextComponents. -/
import Derived.Test.Qxb6601698aClone2
import Derived.Maps.AppendAt
import Derived.WalkSmall
namespace Go.Proofs.Qxb6601698a
open Go.RowKit Go.Maps

/-- the components other than c among the first t steps of a row -/
def nextRow (Cm : Nat → Int) (c : Int) (Z : Nat → Int) : Nat → List Int
  | 0 => []
  | t + 1 => nextRow Cm c Z t ++ (if Cm (Z t).toNat = c then [] else [Cm (Z t).toNat])
/-- .. of the first j members of component c -/
def nextAll (Cm : Nat → Int) (c : Nat) (Ls : Nat → Nat) (Zs : Nat → Nat → Int) (Zc : Nat → Int) : Nat → List Int
  | 0 => []
  | j + 1 => nextAll Cm c Ls Zs Zc j ++ nextRow Cm c (Zs (Zc j).toNat) (Ls (Zc j).toNat)
theorem nextRow_len (Cm : Nat → Int) (c : Int) (Z : Nat → Int) (t : Nat) : (nextRow Cm c Z t).length ≤ t := by
  induction t with
  | zero => simp [nextRow]
  | succ t ih =>
    simp only [nextRow, List.length_append]
    split <;> simp <;> omega
theorem nextAll_len (Cm : Nat → Int) (c : Nat) (Ls : Nat → Nat) (Zs : Nat → Nat → Int) (Zc : Nat → Int) (M j : Nat) (h : ∀ i, i < j → Ls (Zc i).toNat ≤ M) : (nextAll Cm c Ls Zs Zc j).length ≤ j * M := by
  induction j with
  | zero => simp [nextAll]
  | succ j ih =>
    simp only [nextAll, List.length_append]
    have h1 := ih (fun i hi => h i (by omega))
    have h2 := nextRow_len Cm c (Zs (Zc j).toNat) (Ls (Zc j).toNat)
    have h3 := h j (by omega)
    rw [Nat.add_mul]
    omega

/-- wr is W with new blocks and writes to tv's own row alone; v lies in that row or in a new block. -/
structure Grow (W : World) (tv : Value) (wr : World) (v : Value) : Prop where
  g : W.grownBy wr tv.ownBlock
  lies : v.ownBlock = tv.ownBlock ∨ ∃ b, v.ownBlock = some b ∧ W.heap.size ≤ b
theorem grownBy_refl (W : World) (row : Option Nat) : W.grownBy W row := ⟨rfl, rfl, rfl, Nat.le_refl _, fun _ _ _ => rfl⟩
theorem Grow.refl (W : World) (tv : Value) : Grow W tv W tv := ⟨grownBy_refl _ _, .inl rfl⟩
theorem Grow.alloc {W wr : World} {tv v : Value} (h : Grow W tv wr v) (o : Obj) : Grow W tv (wr.alloc o) v :=
  ⟨h.g.trans (World.grownBy_alloc wr o _), h.lies⟩
theorem Grow.app {W wr w' : World} {tv v v' : Value} (h : Grow W tv wr v) (hg : wr.grownBy w' v.ownBlock) (hl : v'.ownBlock = v.ownBlock ∨ v'.ownBlock = some wr.heap.size) : Grow W tv w' v' := by
  have hs := h.g.size
  refine ⟨⟨hg.os.trans h.g.os, hg.tape.trans h.g.tape, hg.output.trans h.g.output, Nat.le_trans hs hg.size, fun i hi hne => ?_⟩, ?_⟩
  · rw [hg.block i (by omega) (fun e => ?_), h.g.block i hi hne]
    rcases h.lies with h1 | ⟨b, h1, h2⟩
    · exact hne (e.trans h1)
    · rw [h1] at e; cases e; omega
  · rcases hl with h1 | h1
    · rw [h1]; exact h.lies
    · exact .inr ⟨_, h1, hs⟩

/-- what nextComponents hands back -/
def RetNext (w : World) (base : Nat) (tv : Value) (xs : List Int) (e : Ending) (w' : World) : Prop :=
  ∃ v', e = .returned v' ∧ w'.ownsRow base 3 1 v' xs.length (xs.map (Value.int .i64)) ∧ Grow w tv w' v'

/-- the box of l lies as it was laid -/
theorem Grow.box {w wr : World} {tv v : Value} {cs : Array Value} (h : Grow (w.alloc (.cells cs 34)) tv wr v) (hl : ∀ k, tv.ownBlock = some k → k < w.heap.size) :
    wr.heap[w.heap.size]? = some (.cells cs 34 (0, 0)) := by
  rw [h.g.block w.heap.size (by simp) (fun e => by have := hl _ e.symm; omega)]
  exact Deep.blk_alloc_new _ _

theorem Grow.below {w0 w wr : World} {base : Nat} {tv v : Value} {o : Obj} (h0 : Below w0.heap.size w0 w) (hb : w0.heap.size ≤ base) (hl : ∀ k, tv.ownBlock = some k → base ≤ k ∧ k < w.heap.size) (h : Grow (w.alloc o) tv wr v) : Below w0.heap.size w0 wr :=
  (h0.alloc h0.size o).grown h.g (by have := h0.size; simp; omega) (fun k hk => by have := (hl k hk).1; omega)

set_option maxHeartbeats 4000000 in
set_option maxRecDepth 100000 in
theorem next_any (v0 v1 v2 v3 tv : Value) (am ac ast : Option Addr) (n k c cm cc cs lo base : Nat) (Ls Lm : Nat → Nat) (Zs Zm : Nat → Nat → Int) (Cm : Nat → Int) (w0 w : World)
    (hn : n ≤ 65536) (hk : k ≤ 65536) (hck : c < k)
    (h0 : Below w0.heap.size w0 w) (hbase : w0.heap.size ≤ base) (hbw : base ≤ w.heap.size)
    (hLs : ∀ i, i < n → Ls i ≤ 1048576) (hLm : Lm c ≤ 1048576)
    (hmem : ∀ j, j < Lm c → 0 ≤ Zm c j ∧ Zm c j < n) (hst : ∀ v, v < n → ∀ j, j < Ls v → 0 ≤ Zs v j ∧ Zs v j < n)
    (hDm : Mat w0 lo am k Lm Zm) (hDs : Mat w0 lo ast n Ls Zs) (hC : Row w0 lo ac n (fun i => .int .i64 (Cm i)))
    (hown : w.ownsRow base 3 1 tv 0 []) :
    Calls Try.prog 33 #[.agg #[v0, v1, v2, v3, .slice am k cm, .slice ac n cc], .int .i64 c, .slice ast n cs, tv] w fun e w' =>
      RetNext w base tv (nextAll Cm c Ls Zs (Zm c) (Lm c)) e w' := by
  obtain ⟨bc, oc, hac, hcc⟩ := hC
  obtain ⟨As, Cs, ⟨bs, os, has, hcs⟩, hsr⟩ := hDs
  obtain ⟨Am, Cmm, ⟨bm, om, ham, hcm⟩, hmr⟩ := hDm
  have hlt := hown.lt
  obtain ⟨i0, hi, hz0, hz1, hz2⟩ := info_parts Try.info3
  obtain ⟨rfl, _⟩ := ham (by omega)
  have hblm : bm < w0.heap.size := World.block_lt_of_cell? _ _ (hcm c hck)
  have hb0 : ∀ o, (w.alloc o).cell? ⟨bm, om + c, none⟩ = some (.slice (Am c) (Lm c) (Cmm c)) := fun o => by
    rw [World.cell?_alloc_old _ _ _ (by show bm ≠ w.heap.size; have := h0.size; omega)]
    exact (h0.cell (p := ⟨bm, om + c, none⟩) hblm).trans (hcm c hck)
  have hm1 := hmr c hck
  obtain ⟨Ac, hAc⟩ : ∃ x, Am c = x := ⟨_, rfl⟩
  rw [hAc] at hm1 hb0
  clear hAc
  obtain ⟨b1, o1, ha1, hc1⟩ := hm1
  have hckz : (c : Int) < (k : Int) := by omega
  go_enter Try.func33, Try.ntmps33
  go_wp2
  clear hb0
  go_loopg [20, 3, 10] (Lm c) (fun g s20 s3 s10 wr => ∃ j : Nat, j ≤ Lm c ∧ g = Lm c - j ∧ s20 = .int .i64 j ∧
    wr.ownsRow base 3 1 s3 (nextAll Cm c Ls Zs (Zm c) j).length ((nextAll Cm c Ls Zs (Zm c) j).map (Value.int .i64)) ∧ Grow (w.alloc (.cells #[v0, v1, v2, v3, .slice (some ⟨bm, om, none⟩) k cm, .slice ac n cc] 34)) tv wr s3)
  case atStart => exact ⟨0, Nat.zero_le _, rfl, rfl, hown.alloc _, Grow.refl _ _⟩
  case round =>
    obtain ⟨j, hj, rfl, rfl, hO, hG⟩ := hrel
    by_cases hlt1 : j < Lm c
    · obtain ⟨hm0, hmn0⟩ := hmem j hlt1
      obtain ⟨m, hm⟩ := Int.eq_ofNat_of_zero_le hm0
      have hmn : m < n := by omega
      have hB := Grow.below h0 hbase hlt hG
      have hbox := hG.box (fun k hk => (hlt k hk).2)
      obtain ⟨rfl, _⟩ := ha1 (by omega)
      obtain ⟨rfl, _⟩ := hac (by omega)
      obtain ⟨rfl, _⟩ := has (by omega)
      have hb1 : b1 < w0.heap.size := World.block_lt_of_cell? _ _ (hc1 j hlt1)
      have hbs : bs < w0.heap.size := World.block_lt_of_cell? _ _ (hcs m hmn)
      have h1 : wr.cell? ⟨b1, o1 + j, none⟩ = some (.int .i64 m) := by rw [← hm]; exact (hB.cell (p := ⟨b1, o1 + j, none⟩) hb1).trans (hc1 j hlt1)
      have h2 : wr.cell? ⟨bs, os + m, none⟩ = some (.slice (As m) (Ls m) (Cs m)) := (hB.cell (p := ⟨bs, os + m, none⟩) hbs).trans (hcs m hmn)
      have hLm' := hLs m hmn
      have hm1 := hsr m hmn
      obtain ⟨Av, hAv⟩ : ∃ x, As m = x := ⟨_, rfl⟩
      rw [hAv] at h2 hm1
      clear hAv
      obtain ⟨b2, o2, ha2, hc2⟩ := hm1
      have Hm : Hid (Zm c j = m) := hm
      have hlen0 := nextAll_len Cm c Ls Zs (Zm c) 1048576 j (fun i hi => hLs _ (by have := hmem i (by omega); omega))
      obtain ⟨xs, hxs⟩ : ∃ xs, xs = nextAll Cm c Ls Zs (Zm c) j := ⟨_, rfl⟩
      rw [← hxs] at hO hlen0
      have Hx : Hid (xs = nextAll Cm c Ls Zs (Zm c) j) := hxs
      have hmz : (m : Int) < (n : Int) := by omega
      clear hxs hm hm0 hmn0 hbox
      go_wp2
      go_loopg [29, 3, 12, 13] (Ls m) (fun g s29 s3 s12 s13 wi => ∃ t : Nat, t ≤ Ls m ∧ g = Ls m - t ∧ s29 = .int .i64 t ∧ ∃ ys, ys = nextRow Cm c (Zs m) t ∧
        wi.ownsRow base 3 1 s3 (xs ++ ys).length ((xs ++ ys).map (Value.int .i64)) ∧ Grow (w.alloc (.cells #[v0, v1, v2, v3, .slice (some ⟨bm, om, none⟩) k cm, .slice (some ⟨bc, oc, none⟩) n cc] 34)) tv wi s3)
      case atStart => exact ⟨0, Nat.zero_le _, rfl, rfl, [], rfl, by simpa using hO, hG⟩
      case round =>
        clear hO hG hB h1 h2
        obtain ⟨t, ht, rfl, rfl, ys, hys, hO, hG⟩ := hrel
        have hylen := nextRow_len Cm c (Zs m) t
        rw [← hys] at hylen
        have Hy : Hid (ys = nextRow Cm c (Zs m) t) := hys
        clear hys
        by_cases hlt2 : t < Ls m
        · obtain ⟨hd0, hdn0⟩ := hst m hmn t hlt2
          obtain ⟨d, hd⟩ := Int.eq_ofNat_of_zero_le hd0
          have hdn : d < n := by omega
          have hB := Grow.below h0 hbase hlt hG
          have hbox := hG.box (fun k hk => (hlt k hk).2)
          have hsz : w.heap.size < wr.heap.size := by have := hG.g.size; simp at this; omega
          obtain ⟨rfl, _⟩ := ha2 (by omega)
          have hb2 : b2 < w0.heap.size := World.block_lt_of_cell? _ _ (hc2 t hlt2)
          have hbc : bc < w0.heap.size := World.block_lt_of_cell? _ _ (hcc d hdn)
          have h1 : wr.cell? ⟨b2, o2 + t, none⟩ = some (.int .i64 d) := by rw [← hd]; exact (hB.cell (p := ⟨b2, o2 + t, none⟩) hb2).trans (hc2 t hlt2)
          have h2 : wr.cell? ⟨bc, oc + d, none⟩ = some (.int .i64 (Cm d)) := (hB.cell (p := ⟨bc, oc + d, none⟩) hbc).trans (hcc d hdn)
          have h3 : wr.cell? ⟨w.heap.size, 5, none⟩ = some (.slice (some ⟨bc, oc, none⟩) n cc) := by simp [World.cell?, hbox]
          have hdz : (d : Int) < (n : Int) := by omega
          have Hd : Hid (Zs m t = d) := hd
          clear hd hd0 hdn0 hbox
          by_cases hne : Cm d = c
          · have hb2 : (Cm d != (c : Int)) = false := by simpa using hne
            have Hne : Hid (Cm d = c) := hne
            clear hne
            go_wp2
            go_roundg (Ls m - (t + 1))
            case measure => go_light; omega
            case rel =>
              go_light
              refine ⟨t + 1, by omega, rfl, by go_num, ys, ?_, hO, hG⟩
              rw [Hy.out, nextRow, Hd.out, Int.toNat_natCast, if_pos Hne.out, List.append_nil]
          · have hb2 : (Cm d != (c : Int)) = true := by simpa using hne
            have Hne : Hid (¬ Cm d = c) := hne
            clear hne
            have hl1 : (xs ++ ys).length + 1 ≤ 2199023255552 := by
              have : j * 1048576 ≤ 1048575 * 1048576 := Nat.mul_le_mul_right _ (by omega)
              simp only [List.length_append]; omega
            go_wp2_with (at_builtin; refine wpList_append_own_at _ rfl _ _ 25 rfl base 3 i0 (.int .i64 0) 1 8 Try.underlying25 hi hz0 hz1 hz2 rfl (by decide) _ _ _ rfl (hO.alloc _) ⟨wr.heap.size, 0, none⟩ 1 1 [.int .i64 (Cm d)] rfl rfl (cell_one_new _ _ _) (ints_oneCell .i64 [Cm d]) (by unfold maxLen; omega) (by omega) (by simp; omega) ?_; intro v' w1 hown' hgrow hnil hloc)
            clear hb2 h1 h2 h3
            go_wp2
            go_roundg (Ls m - (t + 1))
            case measure => go_light; omega
            case rel =>
              go_light
              refine ⟨t + 1, by omega, rfl, by go_num, ys ++ [Cm d], ?_, ?_, (hG.alloc _).app hgrow hloc⟩
              · rw [Hy.out, nextRow, Hd.out, Int.toNat_natCast, if_neg Hne.out]
              · simpa [Nat.add_assoc] using hown'
        · obtain rfl : Ls m = t := by omega
          go_wp2
          go_roundg (Lm c - (j + 1))
          case measure => go_light; omega
          case rel =>
            go_light
            refine ⟨j + 1, by omega, rfl, by go_num, ?_, hG⟩
            rw [nextAll, Hm.out, Int.toNat_natCast, ← Hx.out, ← Hy.out]
            exact hO
    · obtain rfl : Lm c = j := by omega
      go_wp2
      go_ret
      exact ⟨_, rfl, hO, ⟨(World.grownBy_alloc w _ _).trans hG.g, hG.lies.imp id (fun ⟨b, h1, h2⟩ => ⟨b, h1, by simp at h2; omega⟩)⟩⟩
end Go.Proofs.Qxb6601698a
