/- Walk: (*scanner).roll. -/
import Derived.Test.Qxb6601781aInsert
namespace Go.Proofs.Qxb6601781a
open Go.RowKit

/-- the scanner at R: m tokens, mi indents -/
def St (w : World) (lo R m mi : Nat) (hd tk ind fl : Int) (I K L : Nat → Int) (S : Nat → ByteArray) : Prop :=
  ∃ g cap ai ci, w.heap[R]? = some (.cells (scCells (.slice (some ⟨g, 0, none⟩) m cap) (.slice ai mi ci) hd tk ind fl) 54 (0, 0)) ∧ m ≤ cap ∧ Toks w g m cap K L S ∧ Row w lo ai mi (fun i => .int .i64 (I i))
/-- behind roll -/
def RetRoll (w : World) (lo R m mi : Nat) (hd tk ind fl : Int) (I K L : Nat → Int) (S : Nat → ByteArray) (e : Ending) (w' : World) : Prop :=
  e = .returned (.tuple #[]) ∧ St w' lo R m mi hd tk ind fl I K L S ∧ w.grownBy w' (some R)

set_option maxHeartbeats 400000 in
set_option maxRecDepth 100000 in
theorem roll_no (R m mi lo : Nat) (I : Nat → Int) (hd tk ind fl col num kd line : Int) (K L : Nat → Int) (S : Nat → ByteArray) (w : World)
    (hst : St w lo R m mi hd tk ind fl I K L S) (hno : 0 < fl ∨ col ≤ ind) :
    Calls Try.prog 23 #[.pointer (some ⟨R, 0, none⟩), .int .i64 col, .int .i64 num, .int .u8 kd, .int .i64 line] w fun e w' => RetRoll w lo R m mi hd tk ind fl I K L S e w' := by
  have hst' : Hid (St w lo R m mi hd tk ind fl I K L S) := hst
  obtain ⟨g, cap, ai, ci, hsc, _, _, _⟩ := hst
  obtain ⟨c4, c5, c6, c8, c9, c10, hfz⟩ := sc_cells hsc
  go_enter Try.func23, Try.ntmps23
  by_cases hfl : 0 < fl
  · go_wp2
    go_end0
    exact ⟨rfl, hst', ⟨rfl, rfl, rfl, Nat.le_refl _, fun _ _ _ => rfl⟩⟩
  · have h2 : col ≤ ind := by omega
    go_wp2
    go_end0
    exact ⟨rfl, hst', ⟨rfl, rfl, rfl, Nat.le_refl _, fun _ _ _ => rfl⟩⟩

theorem roll_mid {w wc : World} {R b n ni g1 cap1 : Nat} {hd tk ind fl col kd line : Int} {K L : Nat → Int} {S : Nat → ByteArray} {f : Nat → Value}
    (hRlt : R < w.heap.size) (hRb : R ≠ b) (hT : Toks w b n n K L S)
    (hsc1 : wc.heap[R]? = some (.cells (scCells (.slice (some ⟨b, 0, none⟩) n n) (.slice (some ⟨g1, 0, none⟩) (ni + 1) cap1) hd tk ind fl) 54 (0, 0)))
    (hI1 : Row wc w.heap.size (some ⟨g1, 0, none⟩) (ni + 1) f) (hgr1 : w.grownBy wc (some R)) :
    ∃ W, W = (wc.setCell ⟨R, 8, none⟩ (.int .i64 col)).alloc (.cells #[.int .u8 kd, .int .u8 0, .int .i64 line, .string ⟨#[]⟩, .string ⟨#[]⟩, .int .i64 0] 51) ∧
      W.heap[R]? = some (.cells (scCells (.slice (some ⟨b, 0, none⟩) n n) (.slice (some ⟨g1, 0, none⟩) (ni + 1) cap1) hd tk col fl) 54 (0, 0)) ∧
      W.heap[wc.heap.size]? = some (.cells #[.int .u8 kd, .int .u8 0, .int .i64 line, .string ByteArray.empty, .string ByteArray.empty, .int .i64 0] 51 (0, 0)) ∧
      Toks W b n n K L S ∧ Row W w.heap.size (some ⟨g1, 0, none⟩) (ni + 1) f ∧ w.grownBy W (some R) := by
  have hs : (wc.setCell ⟨R, 8, none⟩ (.int .i64 col)).heap.size = wc.heap.size := by simp
  have hb : b < w.heap.size := hT.lt
  have hsz := hgr1.size
  refine ⟨_, rfl, ?_, ?_, ?_, ?_, ?_⟩
  · rw [Deep.blk_alloc_lt _ _ _ (by omega)]; exact sc_set8 hsc1 col
  · rw [← hs]; exact Deep.blk_alloc_new _ _
  · refine hT.of_block ?_
    rw [Deep.blk_alloc_lt _ _ _ (by omega), Below.heap_setCell _ _ _ _ (by show b ≠ R; omega)]
    exact hgr1.block b hb (fun e => hRb (by cases e; rfl))
  · exact (hI1.set (by show R < w.heap.size; exact hRlt) _).alloc _
  · exact (grown_set hgr1 _ _).trans (World.grownBy_alloc _ _ _)

theorem toks_of_take {w1 : World} {g n cap : Nat} {cur : Array Value} {F : Nat → Value} {K L : Nat → Int} {S : Nat → ByteArray} {kd line : Int}
    (hh : w1.heap[g]? = some (.cells cur 51 (0, 0))) (hs : cur.size = cap * 6) (_hc : n + 1 ≤ cap)
    (ht : cur.toList.take ((n + 1) * 6) = (List.range (n * 6)).map F ++ [.int .u8 kd, .int .u8 0, .int .i64 line, .string ByteArray.empty, .string ByteArray.empty, .int .i64 0])
    (hFt : ∀ i, i < n → ∀ f, f < 6 → F (i * 6 + f) = tok K L S i f) : Toks w1 g (n + 1) cap (ins K n kd) (ins L n line) (ins S n ByteArray.empty) := by
  refine ⟨fun j => cur.getD j default, ⟨cur, hh, hs, fun i hi => by simp [Array.getD, show i < cur.size by omega]⟩, fun i hi f hf => ?_⟩
  have h1 : cur[i * 6 + f]? = ((List.range (n * 6)).map F ++ [.int .u8 kd, .int .u8 0, .int .i64 line, .string ByteArray.empty, .string ByteArray.empty, .int .i64 0])[i * 6 + f]? := by
    rw [← ht, List.getElem?_take_of_lt (by omega)]; simp
  show cur.getD (i * 6 + f) default = _
  rw [Array.getD_eq_getD_getElem?, h1]
  by_cases h : i < n
  · rw [List.getElem?_append_left (by simp; omega)]
    simp [show i * 6 + f < n * 6 by omega, hFt i h f hf, tok, ins, h]
  · obtain rfl : n = i := by omega
    rw [List.getElem?_append_right (by simp)]
    simp only [List.length_map, List.length_range, show n * 6 + f - n * 6 = f by omega]
    match f, hf with
    | 0, _ => simp [tok, ins]
    | 1, _ => simp [tok]
    | 2, _ => simp [tok, ins]
    | 3, _ => simp [tok, ins]
    | 4, _ => simp [tok]
    | 5, _ => simp [tok]

set_option maxHeartbeats 2000000 in
set_option maxRecDepth 100000 in
theorem roll_yes (R b n ni pos lo : Nat) (ai : Option Addr) (I : Nat → Int) (hd tk ind fl col num kd line : Int) (K L : Nat → Int) (S : Nat → ByteArray) (w : World) (hn : n ≤ 65536) (hni : ni ≤ 65536) (hlo : lo ≤ w.heap.size)
    (hsc : w.heap[R]? = some (.cells (scCells (.slice (some ⟨b, 0, none⟩) n n) (.slice ai ni ni) hd tk ind fl) 54 (0, 0)))
    (hT : Toks w b n n K L S) (hI : Row w lo ai ni (fun i => .int .i64 (I i))) (hRb : R ≠ b) (hfl : fl ≤ 0) (hcol : ind < col)
    (hpos : num < 0 ∧ pos = n ∨ 0 ≤ num ∧ pos ≤ n ∧ wrap64 (wrap64 (hd + num) - tk) = (pos : Int)) :
    Calls Try.prog 23 #[.pointer (some ⟨R, 0, none⟩), .int .i64 col, .int .i64 num, .int .u8 kd, .int .i64 line] w fun e w' =>
      RetRoll w lo R (n + 1) (ni + 1) hd tk col fl (fun i => if i < ni then I i else ind) (ins K pos kd) (ins L pos line) (ins S pos ByteArray.empty) e w' := by
  obtain ⟨c4, c5, c6, c8, c9, c10, hfz⟩ := sc_cells hsc
  obtain ⟨i0, hi, hz0, hz1, hz2⟩ := info_parts Try.info3
  have hRlt : R < w.heap.size := (Array.getElem?_eq_some_iff.1 hsc).1
  have hca : ∀ o, (w.alloc o).cell? ⟨R, 9, none⟩ = some (.slice ai ni ni) := fun o => by rw [World.cell?_alloc_old _ _ _ (by show R ≠ w.heap.size; omega)]; exact c9
  have hnone : ai = none → ni = 0 ∧ ni = 0 := fun h => ⟨hI.nil h, hI.nil h⟩
  have hposH : Hid (num < 0 ∧ pos = n ∨ 0 ≤ num ∧ pos ≤ n ∧ wrap64 (wrap64 (hd + num) - tk) = (pos : Int)) := hpos
  clear hpos
  go_enter Try.func23, Try.ntmps23
  go_upto_region 1 with fail
  go_cut [0] (fun s0 wx => s0 = .pointer (some ⟨R, 0, none⟩) ∧ AfterInd w wx R ni (.slice (some ⟨b, 0, none⟩) n n) hd tk ind fl I)
  case first =>
    go_region_law (refine step_append_grows rfl (.tmp 28) (.tmp 33) 29 rfl 3 i0 (.int .i64 0) 1 8 Try.underlying29 hi hz0 hz1 hz2 rfl (by decide) ai ni ni ((List.range ni).map (fun i => Value.int .i64 (I i))) (by simp [Act.eval]) hnone (by simp) (row_list hI (fun p hp => World.cell?_alloc_old _ _ _ (by omega))) ⟨w.heap.size, 0, none⟩ 1 1 [.int .i64 ind] (by simp [Act.eval]) rfl (cell_one_new _ _ _) (ints_oneCell .i64 [ind]) (by omega) (by unfold maxLen; omega) (by omega) ?_; intro v' w1 hown hgrow; obtain ⟨g, cap, cur, rfl, hg1, hg2, hg3, hg4, hg5, hg6⟩ := own_new hown; have hb1 := sc_alloc hsc hgrow; obtain ⟨_, _, _, _, d9, _, dfz⟩ := sc_cells hb1)
    all_goals
      go_wp2_with fail
      go_meet
      go_light
      have hg7 : w.heap.size ≤ g := by simp at hg1; omega
      refine ⟨rfl, g, cap, sc_set9 hb1 _, hg7, Row.set (row_of_take hg4 (by simpa using hg6) snoc_at hg7) (by show R < w.heap.size; omega) _, grown_set (grown_some (grown_alloc_drew hgrow) R) _ _⟩
  case rest =>
    obtain ⟨rfl, g1, cap1, hsc1, hg1, hI1, hgr1⟩ := hcut
    clear c4 c5 c6 c8 c9 c10 hfz hca hnone hi hz0 hz1 hz2
    obtain ⟨c4, c5, c6, c8, c9, c10, hfz⟩ := sc_cells hsc1
    by_cases hnum : num < 0
    · go_upto_region 5 with fail
      obtain ⟨W, hW, hscW, hbox, hTW, hIW, hgrW⟩ := roll_mid (col := col) (kd := kd) (line := line) hRlt hRb hT hsc1 hI1 hgr1
      rw [← hW]
      have hwsz : wc.heap.size < W.heap.size := (Array.getElem?_eq_some_iff.1 hbox).1
      have hRW : R < W.heap.size := (Array.getElem?_eq_some_iff.1 hscW).1
      obtain rfl : pos = n := by rcases hposH with h | h <;> omega
      clear hW hposH hsc1 hI1 hgr1 hsc hT hI c4 c5 c6 c8 c9 c10 hfz
      obtain ⟨F, hF, hFt⟩ := hTW
      obtain ⟨c4, _, _, _, _, _, hfz⟩ := sc_cells hscW
      have x0 : W.cell? ⟨wc.heap.size, 0, none⟩ = some (.int .u8 kd) := by simp [World.cell?, hbox]
      have x1 : W.cell? ⟨wc.heap.size, 1, none⟩ = some (.int .u8 0) := by simp [World.cell?, hbox]
      have x2 : W.cell? ⟨wc.heap.size, 2, none⟩ = some (.int .i64 line) := by simp [World.cell?, hbox]
      have x3 : W.cell? ⟨wc.heap.size, 3, none⟩ = some (.string ByteArray.empty) := by simp [World.cell?, hbox]
      have x4 : W.cell? ⟨wc.heap.size, 4, none⟩ = some (.string ByteArray.empty) := by simp [World.cell?, hbox]
      have x5 : W.cell? ⟨wc.heap.size, 5, none⟩ = some (.int .i64 0) := by simp [World.cell?, hbox]
      have hca : ∀ o j, (W.alloc o).cell? ⟨R, j, none⟩ = W.cell? ⟨R, j, none⟩ := fun o j => by rw [World.cell?_alloc_old _ _ _ (by show R ≠ W.heap.size; omega)]
      obtain ⟨i1, hi, hz0, hz1, hz2⟩ := info_parts Try.info51
      go_region_law (refine step_append_grows rfl (.tmp 50) (.tmp 52) 48 rfl 51 i1 (.agg #[.int .u8 0, .int .u8 0, .int .i64 0, .string ByteArray.empty, .string ByteArray.empty, .int .i64 0]) 6 56 Try.underlying48 hi hz0 hz1 hz2 rfl (by decide) (some ⟨b, 0, none⟩) pos pos ((List.range (pos * 6)).map F) (by simp [Act.eval]) (by simp) (by simp) (toks_list hF (Nat.le_refl _) (fun p hp => World.cell?_alloc_old _ _ _ (by omega))) ⟨W.heap.size, 0, none⟩ 1 1 [.int .u8 kd, .int .u8 0, .int .i64 line, .string ByteArray.empty, .string ByteArray.empty, .int .i64 0] (by simp [Act.eval]) rfl (cells_new _ _ _) (by simp [Value.oneCell']) (by omega) (by unfold maxLen; omega) (by omega) ?_; intro v' w1 hown hgrow; obtain ⟨g, cap, cur, rfl, hg1, hg2, hg3, hg4, hg5, hg6⟩ := own_new hown; have hb1 := sc_alloc hscW hgrow; obtain ⟨_, _, _, _, d9, _, dfz⟩ := sc_cells hb1)
      all_goals
        go_wp2_with fail
        go_end0
        have hg7 : W.heap.size < g := by simp at hg1; omega
        have hgN := grown_alloc_drew hgrow
        exact ⟨rfl, ⟨g, cap, _, _, sc_set4 hb1 _, hg2, (toks_of_take hg4 hg5 hg2 hg6 hFt).of_block (Below.heap_setCell _ _ _ _ (by show g ≠ R; omega)), Row.mono (Row.set (hIW.grown hgN (by simp)) (by show R < w.heap.size; exact hRlt) _) hlo⟩, grown_set (hgrW.trans (grown_some hgN R)) _ _⟩
    · go_upto_region 6 with fail
      obtain ⟨W, hW, hscW, hbox, hTW, hIW, hgrW⟩ := roll_mid (col := col) (kd := kd) (line := line) hRlt hRb hT hsc1 hI1 hgr1
      rw [← hW]
      clear hW hsc1 hI1 hgr1 hsc hT hI c4 c5 c6 c8 c9 c10 hfz
      obtain ⟨hp1, hp2⟩ : pos ≤ n ∧ wrap64 (wrap64 (hd + num) - tk) = (pos : Int) := by rcases hposH with h | h <;> omega
      have x0 : W.cell? ⟨wc.heap.size, 0, none⟩ = some (.int .u8 kd) := by simp [World.cell?, hbox]
      have x1 : W.cell? ⟨wc.heap.size, 1, none⟩ = some (.int .u8 0) := by simp [World.cell?, hbox]
      have x2 : W.cell? ⟨wc.heap.size, 2, none⟩ = some (.int .i64 line) := by simp [World.cell?, hbox]
      have x3 : W.cell? ⟨wc.heap.size, 3, none⟩ = some (.string ByteArray.empty) := by simp [World.cell?, hbox]
      have x4 : W.cell? ⟨wc.heap.size, 4, none⟩ = some (.string ByteArray.empty) := by simp [World.cell?, hbox]
      have x5 : W.cell? ⟨wc.heap.size, 5, none⟩ = some (.int .i64 0) := by simp [World.cell?, hbox]
      go_wp2_with fail
      refine (insert_any R b n pos _ hd tk col fl num kd line K L S W hn hp1 hp2 hscW hTW).mono ?_
      rintro e w1 ⟨rfl, g, cap, hsc2, hg2, hcap, hT2, hgr2⟩
      go_wp2
      go_end0
      exact ⟨rfl, ⟨g, cap, _, _, hsc2, hcap, hT2, (hIW.grown hgr2 (by rintro k ⟨⟩; exact .inl hRlt)).mono hlo⟩, hgrW.trans hgr2⟩
end Go.Proofs.Qxb6601781a
