/- Walk: (*scanner).insert. -/
import Derived.Test.Qxb6601781aHelp
import Derived.Test.Qxb6601781aCopy
namespace Go.Proofs.Qxb6601781a
open Go.RowKit

/-- x put in at place pos -/
def ins {α : Type} (f : Nat → α) (pos : Nat) (x : α) : Nat → α := fun i => if i < pos then f i else if i = pos then x else f (i - 1)
/-- behind 's.tokens = append(s.tokens, token{})' -/
def AfterTok (w wx : World) (R n : Nat) (iv : Value) (hd tk ind fl : Int) (K L : Nat → Int) (S : Nat → ByteArray) : Prop :=
  ∃ g cap, wx.heap[R]? = some (.cells (scCells (.slice (some ⟨g, 0, none⟩) (n + 1) cap) iv hd tk ind fl) 54 (0, 0)) ∧ w.heap.size ≤ g ∧ n + 1 ≤ cap ∧ Toks wx g n cap K L S ∧ w.grownBy wx (some R)

theorem toks_list {w W : World} {b n cap : Nat} {t : TypeId} {F : Nat → Value} (h : w.rowIs b t (cap * 6) F) (hn : n ≤ cap) (hW : ∀ p : Addr, p.block < w.heap.size → W.cell? p = w.cell? p) :
    ∀ b', some (⟨b, 0, none⟩ : Addr) = some b' → ∀ j u, ((List.range (n * 6)).map F)[j]? = some u → W.cell? (b'.add j) = some u := by
  intro b' hb j u hj
  cases hb
  have hjn : j < n * 6 := by
    rcases Nat.lt_or_ge j (n * 6) with h | h
    · exact h
    · rw [List.getElem?_eq_none (by simpa using h)] at hj; cases hj
  have e2 : u = F j := by simpa [hjn] using hj.symm
  rw [e2, add_at, hW _ h.lt]
  simpa using h.cell (i := j) (by omega)

theorem cells_new (w : World) (t : TypeId) (news : List Value) : ∀ j u, news[j]? = some u → (w.alloc (.cells news.toArray t)).cell? ((⟨w.heap.size, 0, none⟩ : Addr).add j) = some u := by
  intro j u hj
  rw [add_at]
  have : (w.alloc (.cells news.toArray t)).heap[w.heap.size]? = some (.cells news.toArray t (0, 0)) := Deep.blk_alloc_new _ _
  unfold World.cell?
  rw [this]
  simpa using hj
theorem sc_alloc' {w w1 : World} {R : Nat} {o x : Obj} (h : w.heap[R]? = some x) (hg : (w.alloc o).grownBy w1 none) : w1.heap[R]? = some x := by
  have hlt : R < w.heap.size := (Array.getElem?_eq_some_iff.1 h).1
  rw [hg.block R (by show R < (w.heap.push o).size; simp; omega) (by simp)]
  show (w.heap.push o)[R]? = _
  rw [Array.getElem?_push, if_neg (by omega)]
  exact h

theorem setRow_rowIs {w : World} {g N off : Nat} {t : TypeId} {cur : Array Value} {cs : List Value} (hg : w.heap[g]? = some (.cells cur t (0, 0))) (hN : cur.size = N) (hfit : off + cs.length ≤ N) :
    (w.setRow g (cur.toList.take off ++ cs ++ cur.toList.drop (off + cs.length)).toArray).rowIs g t N (fun j => if off ≤ j ∧ j < off + cs.length then cs.getD (j - off) default else cur.getD j default) := by
  refine ⟨_, setRow_heap w g cur _ t _ hg, ?_, fun i hi => ?_⟩
  · simp; omega
  · have hl : cur.toList.length = N := by simpa using hN
    have e1 : (cur.toList.take off).length = off := by simp; omega
    simp only [List.getElem?_toArray]
    by_cases h1 : i < off
    · rw [if_neg (by omega), List.append_assoc, List.getElem?_append_left (by omega), List.getElem?_take_of_lt h1]
      simp [Array.getD, show i < cur.size by omega]
    · by_cases h2 : i < off + cs.length
      · rw [if_pos ⟨by omega, h2⟩, List.append_assoc, List.getElem?_append_right (by omega), e1, List.getElem?_append_left (by omega)]
        simp [List.getElem?_eq_getElem (show i - off < cs.length by omega)]
      · rw [if_neg (by omega), List.getElem?_append_right (by simp; omega), List.getElem?_drop]
        have e2 : off + cs.length + (i - (cur.toList.take off ++ cs).length) = i := by
          simp only [List.length_append, e1]; omega
        rw [e2]
        simp [Array.getD, show i < cur.size by omega]
/-- what insert does to the scanner -/
def RetIns (w : World) (R n k : Nat) (iv : Value) (hd tk ind fl kd line : Int) (K L : Nat → Int) (S : Nat → ByteArray) (e : Ending) (w' : World) : Prop :=
  e = .returned (.tuple #[]) ∧ ∃ g cap, w'.heap[R]? = some (.cells (scCells (.slice (some ⟨g, 0, none⟩) (n + 1) cap) iv hd tk ind fl) 54 (0, 0)) ∧ w.heap.size ≤ g ∧ n + 1 ≤ cap ∧ Toks w' g (n + 1) cap (ins K k kd) (ins L k line) (ins S k ByteArray.empty) ∧ w.grownBy w' (some R)


theorem heap_drew' (w : World) : w.drew.heap = w.heap := rfl
theorem grown_drew' {w w1 : World} {r : Option Nat} (h : w.grownBy w1 r) : w.grownBy w1.drew r := ⟨h.os, h.tape, h.output, h.size, h.block⟩
theorem grown_own {w w1 : World} {r : Option Nat} (h : w.grownBy w1 r) {g : Nat} (hg : w.heap.size ≤ g) (o : Nat) (v : Value) : w.grownBy (w1.setCell ⟨g, o, none⟩ v) r :=
  ⟨h.os, h.tape, h.output, by simpa using h.size, fun i hi hne => by rw [Below.heap_setCell _ _ _ _ (by show i ≠ g; omega)]; exact h.block i hi hne⟩
theorem grown_put6 {w w1 : World} {r : Option Nat} (h : w.grownBy w1 r) {g : Nat} (hg : w.heap.size ≤ g) (k : Nat) (v0 v1 v2 v3 v4 v5 : Value) : w.grownBy (put6 w1 g k v0 v1 v2 v3 v4 v5) r := by
  unfold put6
  exact grown_own (grown_own (grown_own (grown_own (grown_own (grown_own h hg _ _) hg _ _) hg _ _) hg _ _) hg _ _) hg _ _
set_option linter.unusedSimpArgs false in
theorem ins_close {w wc : World} {R g n k cap : Nat} {iv : Value} {hd tk ind fl kd line : Int} {K L : Nat → Int} {S : Nat → ByteArray} {F F2 : Nat → Value} {cur : Array Value}
    (hRlt : R < w.heap.size) (hgw : w.heap.size < g) (hg3 : n + 1 ≤ cap) (hk : k ≤ n)
    (hsc4 : wc.heap[R]? = some (.cells (scCells (.slice (some ⟨g, 0, none⟩) (n + 1) cap) iv hd tk ind fl) 54 (0, 0)))
    (hgr4 : w.grownBy wc (some R)) (hrow4 : wc.rowIs g 51 (cap * 6) F2)
    (HF2 : F2 = fun j => if (k + 1) * 6 ≤ j ∧ j < (k + 1) * 6 + (n - k) * 6 then F (j - 6) else cur.getD j default)
    (hcurF : ∀ j, j < n * 6 → cur[j]? = some (F j)) (hFt : ∀ i, i < n → ∀ f, f < 6 → F (i * 6 + f) = tok K L S i f) :
    RetIns w R n k iv hd tk ind fl kd line K L S (.returned (.tuple #[])) ((put6 wc g k (.int .u8 kd) (.int .u8 0) (.int .i64 line) (.string ByteArray.empty) (.string ByteArray.empty) (.int .i64 0)).drew) := by
  have hp : ∀ x, x ≠ g → ((put6 wc g k (.int .u8 kd) (.int .u8 0) (.int .i64 line) (.string ByteArray.empty) (.string ByteArray.empty) (.int .i64 0)).drew).heap[x]? = wc.heap[x]? := fun x hx => by
    rw [heap_drew']
    exact put6_other _ _ _ _ _ _ hx
  refine ⟨rfl, g, cap, ?_, Nat.le_of_lt hgw, hg3, ?_, ?_⟩
  · rw [hp R (by omega)]; exact hsc4
  · refine ⟨_, (put6_row hrow4 _ _ _ _ _ _).drew, fun i hi f hf => ?_⟩
    rcases Nat.lt_trichotomy i k with h | h | h
    · rw [if_neg (by omega), HF2]
      show (if _ then _ else _) = _
      rw [if_neg (by omega)]
      have e3 := hcurF (i * 6 + f) (by omega)
      rw [hFt i (by omega) f hf] at e3
      rw [Array.getD_eq_getD_getElem?, e3]
      simp [tok, ins, h]
    · subst h
      rw [if_pos (by omega), show i * 6 + f - i * 6 = f by omega]
      match f, hf with
      | 0, _ => simp [six, tok, ins]
      | 1, _ => simp [six, tok, ins]
      | 2, _ => simp [six, tok, ins]
      | 3, _ => simp [six, tok, ins]
      | 4, _ => simp [six, tok, ins]
      | 5, _ => simp [six, tok, ins]
    · rw [if_neg (by omega), HF2]
      show (if _ then _ else _) = _
      rw [if_pos (by omega), show i * 6 + f - 6 = (i - 1) * 6 + f by omega, hFt (i - 1) (by omega) f hf]
      simp [tok, ins, show ¬ i < k by omega, show ¬ i = k by omega]
  · exact grown_drew' (grown_put6 hgr4 (Nat.le_of_lt hgw) _ _ _ _ _ _ _)

set_option linter.unusedSimpArgs false in
set_option maxHeartbeats 4000000 in
set_option maxRecDepth 100000 in
theorem insert_any (R b n k : Nat) (iv : Value) (hd tk ind fl num kd line : Int) (K L : Nat → Int) (S : Nat → ByteArray) (w : World) (hn : n ≤ 65536) (hk : k ≤ n)
    (hpos : wrap64 (wrap64 (hd + num) - tk) = (k : Int))
    (hsc : w.heap[R]? = some (.cells (scCells (.slice (some ⟨b, 0, none⟩) n n) iv hd tk ind fl) 54 (0, 0)))
    (hT : Toks w b n n K L S) :
    Calls Try.prog 24 #[.pointer (some ⟨R, 0, none⟩), .int .i64 num, .agg #[.int .u8 kd, .int .u8 0, .int .i64 line, .string ByteArray.empty, .string ByteArray.empty, .int .i64 0]] w fun e w' => RetIns w R n k iv hd tk ind fl kd line K L S e w' := by
  obtain ⟨c4, c5, c6, c8, c9, c10, hfz⟩ := sc_cells hsc
  obtain ⟨i1, hi, hz0, hz1, hz2⟩ := info_parts Try.info51
  have hRlt : R < w.heap.size := (Array.getElem?_eq_some_iff.1 hsc).1
  have hca : ∀ o j, (w.alloc o).cell? ⟨R, j, none⟩ = w.cell? ⟨R, j, none⟩ := fun o j => by rw [World.cell?_alloc_old _ _ _ (by show R ≠ w.heap.size; omega)]
  go_enter Try.func24, Try.ntmps24
  go_wp2
  go_quiet (fail)
  rw [hpos]
  clear hpos c5 c6
  have hg1 : w.grownBy ((w.alloc (.cells #[.int .u8 kd, .int .u8 0, .int .i64 line, .string ByteArray.empty, .string ByteArray.empty, .int .i64 0] 51)).drewN nq) none := ⟨rfl, rfl, rfl, by simp, fun i hi _ => Below.heap_alloc _ _ _ hi⟩
  have hbox : ((w.alloc (.cells #[.int .u8 kd, .int .u8 0, .int .i64 line, .string ByteArray.empty, .string ByteArray.empty, .int .i64 0] 51)).drewN nq).heap[w.heap.size]? = some (.cells #[.int .u8 kd, .int .u8 0, .int .i64 line, .string ByteArray.empty, .string ByteArray.empty, .int .i64 0] 51 (0, 0)) := Deep.blk_alloc_new _ _
  generalize (w.alloc (.cells #[.int .u8 kd, .int .u8 0, .int .i64 line, .string ByteArray.empty, .string ByteArray.empty, .int .i64 0] 51)).drewN nq = W1 at hg1 hbox ⊢
  have hsc1 := (hg1.block R hRlt (by simp)).trans hsc
  have hT1 := hT.of_block (hg1.block b hT.lt (by simp))
  obtain ⟨F, hF, hFt⟩ := hT1
  obtain ⟨d4, d5, d6, d8, d9, d10, dfz⟩ := sc_cells hsc1
  have hRlt1 : R < W1.heap.size := (Array.getElem?_eq_some_iff.1 hsc1).1
  have hca1 : ∀ o j, (W1.alloc o).cell? ⟨R, j, none⟩ = W1.cell? ⟨R, j, none⟩ := fun o j => by rw [World.cell?_alloc_old _ _ _ (by show R ≠ W1.heap.size; omega)]
  clear c4 c8 c9 c10 hfz hca
  go_wp2_with (at_builtin; refine wpList_append_grows _ rfl _ _ 48 rfl 51 i1 (.agg #[.int .u8 0, .int .u8 0, .int .i64 0, .string ByteArray.empty, .string ByteArray.empty, .int .i64 0]) 6 56 Try.underlying48 hi hz0 hz1 hz2 rfl (by decide) (some ⟨b, 0, none⟩) n n ((List.range (n * 6)).map F) rfl (by simp) (by simp) (toks_list hF (Nat.le_refl _) (fun p hp => World.cell?_alloc_old _ _ _ (by omega))) ⟨W1.heap.size, 0, none⟩ 1 1 [.int .u8 0, .int .u8 0, .int .i64 0, .string ByteArray.empty, .string ByteArray.empty, .int .i64 0] rfl rfl (cells_new _ _ _) (by simp [Value.oneCell']) (by omega) (by unfold maxLen; omega) (by omega) ?_; intro v' w1 hown hgrow; obtain ⟨g, cap, cur, rfl, hg2, hg3, hg4, hg5, hg6, hg7⟩ := own_new hown; have hsc2 := sc_alloc' hsc1 hgrow; obtain ⟨f4, _, _, _, _, _, ffz⟩ := sc_cells hsc2)
  go_upto_region 3 with fail
  have hWsz : w.heap.size < W1.heap.size := (Array.getElem?_eq_some_iff.1 hbox).1
  have hgW : W1.heap.size < g := by simp at hg2; omega
  have hsc3 := sc_set4 hsc2 (.slice (some ⟨g, 0, none⟩) (n + 1) cap)
  have hcur : (w1.setCell ⟨R, 4, none⟩ (.slice (some ⟨g, 0, none⟩) (n + 1) cap)).heap[g]? = some (.cells cur 51 (0, 0)) := by rw [Below.heap_setCell _ _ _ _ (by show g ≠ R; omega)]; exact hg5
  have hbox3 : (w1.setCell ⟨R, 4, none⟩ (.slice (some ⟨g, 0, none⟩) (n + 1) cap)).heap[w.heap.size]? = some (.cells #[.int .u8 kd, .int .u8 0, .int .i64 line, .string ByteArray.empty, .string ByteArray.empty, .int .i64 0] 51 (0, 0)) := by
    rw [Below.heap_setCell _ _ _ _ (by show w.heap.size ≠ R; omega)]; exact sc_alloc' hbox hgrow
  have hgr3 : w.grownBy (w1.setCell ⟨R, 4, none⟩ (.slice (some ⟨g, 0, none⟩) (n + 1) cap)) (some R) := grown_set (grown_some (hg1.trans ((World.grownBy_alloc W1 _ none).trans hgrow)) R) _ _
  generalize w1.setCell ⟨R, 4, none⟩ (.slice (some ⟨g, 0, none⟩) (n + 1) cap) = W2 at hsc3 hcur hbox3 hgr3 ⊢
  have hcurF : ∀ j, j < n * 6 → cur[j]? = some (F j) := fun j hj => by
    have h1 : (cur.toList.take ((n + 1) * 6))[j]? = some (F j) := by
      rw [hg7, List.getElem?_append_left (by simpa using hj)]
      simp [hj]
    rw [List.getElem?_take_of_lt (by omega)] at h1
    simpa using h1
  clear hg7 hown hgrow hsc2 hsc1 hsc hT hbox d4 d5 d6 d8 d9 d10 dfz f4 ffz hca1 hg1 hg5 hF
  obtain ⟨e4, e5, e6, e8, e9, e10, efz⟩ := sc_cells hsc3
  obtain ⟨CS, hCS⟩ : ∃ CS, CS = (List.range ((n - k) * 6)).map (fun j => F (k * 6 + j)) := ⟨_, rfl⟩
  have hCSl : CS.length = (n - k) * 6 := by rw [hCS]; simp
  have hCSg : ∀ j, j < (n - k) * 6 → CS.getD j default = F (k * 6 + j) := fun j hj => by rw [hCS]; simp [hj]
  have hCSs : ∀ j v, CS[j]? = some v → W2.drew.cell? ((⟨g, k * 6, none⟩ : Addr).add j) = some v := fun j v hj => by
    have hjn : j < (n - k) * 6 := by
      rcases Nat.lt_or_ge j ((n - k) * 6) with h | h
      · exact h
      · rw [List.getElem?_eq_none (by omega)] at hj; cases hj
    have e2 : v = F (k * 6 + j) := by rw [hCS] at hj; simpa [hjn] using hj.symm
    rw [e2, add_at]
    have h3 : W2.drew.heap[g]? = some (.cells cur 51 (0, 0)) := hcur
    simpa [World.cell?, h3] using hcurF (k * 6 + j) (by omega)
  have hCS1 : ∀ v ∈ CS, v.oneCell' = true := fun v hv => by
    rw [hCS] at hv
    obtain ⟨j, hj, rfl⟩ := List.mem_map.1 hv
    have hj := List.mem_range.1 hj
    have e1 : k * 6 + j = (k + j / 6) * 6 + j % 6 := by omega
    rw [e1, hFt (k + j / 6) (by omega) (j % 6) (by omega)]
    have : j % 6 < 6 := by omega
    generalize j % 6 = f at this
    match f, this with
    | 0, _ => rfl
    | 1, _ => rfl
    | 2, _ => rfl
    | 3, _ => rfl
    | 4, _ => rfl
    | 5, _ => rfl
  have HCS : Hid (CS = (List.range ((n - k) * 6)).map (fun j => F (k * 6 + j))) := hCS
  have hk1 : IntKind.i64.wrap ((k : Int) + 1) = (k : Int) + 1 := by rw [IntKind.wrap_i64]; omega
  have hk2 : ((k : Int) + 1).toNat = k + 1 := by omega
  have hk3 : (0 : Int) ≤ (k : Int) + 1 := by omega
  have hk4 : (k : Int) ≤ (n : Int) := by omega
  have hk5 : (k : Int) ≤ (n : Int) + 1 := by omega
  have hk6 : ¬ cap = k := by omega
  clear hCS
  go_cut [6] (fun s6 wx => s6 = .int .i64 k ∧ wx.heap[R]? = some (.cells (scCells (.slice (some ⟨g, 0, none⟩) (n + 1) cap) iv hd tk ind fl) 54 (0, 0)) ∧
    wx.heap[w.heap.size]? = some (.cells #[.int .u8 kd, .int .u8 0, .int .i64 line, .string ByteArray.empty, .string ByteArray.empty, .int .i64 0] 51 (0, 0)) ∧ w.grownBy wx (some R) ∧
    wx.rowIs g 51 (cap * 6) (fun j => if (k + 1) * 6 ≤ j ∧ j < (k + 1) * 6 + (n - k) * 6 then F (j - 6) else cur.getD j default))
  case first =>
    go_region_law (refine step_copy_sized rfl (.tmp 34) (.tmp 40) 48 48 rfl 51 6 Try.underlying48 (by kernel_rfl) (if cap = k + 1 then some ⟨g, 0, none⟩ else some ⟨g, (k + 1) * 6, none⟩) (some ⟨g, k * 6, none⟩) (n - k) (cap - (k + 1)) (n + 1 - k) (cap - k) (by simp [Act.eval, Act.put]) (by simp [Act.eval, Act.put]) g ((k + 1) * 6) cur 51 hcur CS (n - k) (by simp [Nat.min_def]; omega) hCSl (fun h => ⟨by rw [if_neg (by omega)], _, rfl, hCSs⟩) (by omega) hCS1 ?_)
    all_goals (go_wp2_with fail)
    all_goals
      go_meet
      go_light
      have hrw := setRow_rowIs (w := W2.drew) (off := (k + 1) * 6) (cs := CS) hcur hg6 (by omega)
      rw [List.append_assoc, hCSl] at hrw
      refine ⟨rfl, ?_, ?_, ?_, hrw.congr (fun j _ => ?_)⟩
      · rw [setRow_other _ _ _ _ (by omega)]; exact hsc3
      · rw [setRow_other _ _ _ _ (by omega)]; exact hbox3
      · exact ⟨hgr3.os, hgr3.tape, hgr3.output, by simpa using hgr3.size, fun i hi hne => by rw [setRow_other _ _ _ _ (by omega)]; exact hgr3.block i hi hne⟩
      · by_cases hj : (k + 1) * 6 ≤ j ∧ j < (k + 1) * 6 + (n - k) * 6
        · rw [if_pos hj, if_pos hj, hCSg _ (by omega)]
          congr 1
          omega
        · rw [if_neg hj, if_neg hj]
  case rest =>
    obtain ⟨rfl, hsc4, hbox4, hgr4, hrow4⟩ := hcut
    clear e4 e5 e6 e8 e9 e10 efz hCSs hCS1 HCS hcur hbox3 hgr3 hsc3 hk1 hk2 hk3 hk5 hk6
    obtain ⟨e4, _, _, _, _, _, _⟩ := sc_cells hsc4
    have x0 : wc.cell? ⟨w.heap.size, 0, none⟩ = some (.int .u8 kd) := by simp [World.cell?, hbox4]
    have x1 : wc.cell? ⟨w.heap.size, 1, none⟩ = some (.int .u8 0) := by simp [World.cell?, hbox4]
    have x2 : wc.cell? ⟨w.heap.size, 2, none⟩ = some (.int .i64 line) := by simp [World.cell?, hbox4]
    have x3 : wc.cell? ⟨w.heap.size, 3, none⟩ = some (.string ByteArray.empty) := by simp [World.cell?, hbox4]
    have x4 : wc.cell? ⟨w.heap.size, 4, none⟩ = some (.string ByteArray.empty) := by simp [World.cell?, hbox4]
    have x5 : wc.cell? ⟨w.heap.size, 5, none⟩ = some (.int .i64 0) := by simp [World.cell?, hbox4]
    obtain ⟨F2, hF2⟩ : ∃ F2 : Nat → Value, F2 = (fun j => if (k + 1) * 6 ≤ j ∧ j < (k + 1) * 6 + (n - k) * 6 then F (j - 6) else cur.getD j default) := ⟨_, rfl⟩
    rw [← hF2] at hrow4
    have HF2 : Hid (F2 = (fun j => if (k + 1) * 6 ≤ j ∧ j < (k + 1) * 6 + (n - k) * 6 then F (j - 6) else cur.getD j default)) := hF2
    clear hF2
    have y0 : wc.cell? ⟨g, k * 6, none⟩ = some (F2 (k * 6)) := hrow4.cell (by omega)
    have y1 := hrow4.cell (i := k * 6 + 1) (by omega)
    have y2 := hrow4.cell (i := k * 6 + 2) (by omega)
    have y3 := hrow4.cell (i := k * 6 + 3) (by omega)
    have y4 := hrow4.cell (i := k * 6 + 4) (by omega)
    have y5 := hrow4.cell (i := k * 6 + 5) (by omega)
    have yf : ∀ j, wc.frozen? ⟨g, j, none⟩ = false := fun j => hrow4.frozen j
    have hkz : (k : Int) < (n : Int) + 1 := by omega
    go_wp2
    go_region
    go_end0
    exact ins_close hRlt (by omega) hg3 hk hsc4 hgr4 hrow4 HF2 hcurF hFt
end Go.Proofs.Qxb6601781a
