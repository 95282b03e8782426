/- Walks: zzB1CloneInts2, zzB1NumberOf. -/
import Derived.Test.Qxb6601698aClone
import Derived.Maps.OwnSet
namespace Go.Proofs.Qxb6601698a
open Go.RowKit Go.Maps Go.WideMaps

theorem Row.nil {w : World} {lo : Nat} {a : Option Addr} {n : Nat} {f : Nat → Value} (h : Row w lo a n f) : a = none → n = 0 := by
  obtain ⟨b, off, h1, _⟩ := h
  intro e
  rcases Nat.eq_zero_or_pos n with h | h
  · exact h
  · have := (h1 h).1
    rw [e] at this
    cases this

/-- After k rounds of the outer copy. -/
def Copied2 (w wr : World) (n k : Nat) (L : Nat → Nat) (Z : Nat → Nat → Int) : Prop :=
  ∃ (A : Nat → Option Addr) (C : Nat → Nat), wr.rowIs w.heap.size 25 n (fun i => if i < k then .slice (A i) (L i) (C i) else .slice none 0 0) ∧
    (∀ i, i < k → Row wr (w.heap.size + 1) (A i) (L i) (fun j => .int .i64 (Z i j))) ∧ Below w.heap.size w wr
theorem Copied2.start (w : World) (n : Nat) (L : Nat → Nat) (Z : Nat → Nat → Int) : Copied2 w (w.alloc (.cells (madeCells #[.slice none 0 0] n) 25)) n 0 L Z :=
  ⟨fun _ => none, fun _ => 0, (World.rowIs_made w _ n 25).congr (fun i _ => by simp), fun i hi => absurd hi (Nat.not_lt_zero _), (Below.refl _ _).alloc (Nat.le_refl _) _⟩
theorem Copied2.step {w wr w1 : World} {n k : Nat} {L : Nat → Nat} {Z : Nat → Nat → Int} (h : Copied2 w wr n k L Z) {a : Option Addr} {c : Nat}
    (hr : Row w1 wr.heap.size a (L k) (fun j => .int .i64 (Z k j))) (hb : Below wr.heap.size wr w1) :
    Copied2 w (w1.setCell ⟨w.heap.size, k, none⟩ (.slice a (L k) c)) n (k + 1) L Z := by
  obtain ⟨A, C, h1, h2, h3⟩ := h
  have hlt := h1.lt
  have e1 : ∀ i, i < wr.heap.size → w1.heap[i]? = wr.heap[i]? := hb.block
  refine ⟨fun i => if i < k then A i else a, fun i => if i < k then C i else c, ((h1.of_block (e1 _ hlt)).set k _).congr (fun i _ => ?_), fun i hi => ?_, ?_⟩
  · by_cases e : i = k
    · subst e; simp
    · by_cases h2 : i < k
      · rw [if_neg e, if_pos h2, if_pos (by omega)]; simp [h2]
      · rw [if_neg e, if_neg h2, if_neg (by omega)]
  · refine Row.set ?_ (by show w.heap.size < w.heap.size + 1; omega) _
    by_cases e : i < k
    · simp only [e, if_true]
      exact (h2 i e).below (Nat.le_refl _) hb
    · obtain rfl : i = k := by omega
      simp only [Nat.lt_irrefl, if_false]
      exact hr.mono (by omega)
  · exact (h3.trans (hb.mono (by omega))).setCell (Nat.le_refl _) _
theorem Copied2.mat {w wr : World} {n : Nat} {L : Nat → Nat} {Z : Nat → Nat → Int} (h : Copied2 w wr n n L Z) : Mat wr w.heap.size (some ⟨w.heap.size, 0, none⟩) n L Z := by
  obtain ⟨A, C, h1, h2, h3⟩ := h
  exact ⟨A, C, Row.of_rowIs (h1.congr (fun i hi => by rw [if_pos hi])) (Nat.le_refl _), fun i hi => (h2 i hi).mono (by omega)⟩

set_option maxHeartbeats 1000000 in
theorem cloneInts2_any (a : Option Addr) (n cap lo : Nat) (L : Nat → Nat) (Z : Nat → Nat → Int) (w : World) (hn : n ≤ 65536) (hL : ∀ i, i < n → L i ≤ 1048576)
    (hr : Mat w lo a n L Z) :
    Calls Try.prog 14 #[.slice a n cap] w fun e w' => RetMat w n L Z e w' := by
  obtain ⟨A, C, hrow, hin⟩ := hr
  have hnil := hrow.nil
  obtain ⟨b, off, ha, hc⟩ := hrow
  have heq := fun w => Lib.run_eql_slice_nil (P := Try.prog) w 24 25 a n cap 0 0 Try.underlying24
  have hmk := run_make_row' (P := Try.prog) 24 25 (.slice none 0 0) 24 Try.underlying24 Try.info25 rfl .i64 .i64 n (by omega) (by omega)
  cases a with
  | none =>
    obtain rfl := hnil rfl
    go_enter Try.func14, Try.ntmps14
    go_wp2
    go_ret
    exact ⟨none, 0, rfl, ⟨fun _ => none, fun _ => 0, Row.zero _ _ _ _, fun i hi => absurd hi (Nat.not_lt_zero _)⟩, Below.refl _ _, fun _ => rfl⟩
  | some a0 =>
    go_enter Try.func14, Try.ntmps14
    go_wp2
    clear hmk heq
    go_loopg [4] n (fun g s4 wr => ∃ k : Nat, k ≤ n ∧ g = n - k ∧ s4 = .int .i64 k ∧ Copied2 w wr n k L Z)
    case atStart => exact ⟨0, Nat.zero_le _, rfl, rfl, Copied2.start _ _ _ _⟩
    case round =>
      obtain ⟨k, hk, rfl, rfl, hC⟩ := hrel
      obtain ⟨A', C', hB1, hB2, hB3⟩ := hC
      by_cases hlt : k < n
      · obtain ⟨h0, _⟩ := ha (by omega)
        obtain rfl : a0 = ⟨b, off, none⟩ := by simpa using h0
        have hbl : b < w.heap.size := World.block_lt_of_cell? _ _ (hc k hlt)
        have h1 : wr.cell? ⟨b, off + k, none⟩ = some (.slice (A k) (L k) (C k)) := (hB3.cell (p := ⟨b, off + k, none⟩) hbl).trans (hc k hlt)
        have hk1 := (hin k hlt).below (Nat.le_refl _) hB3
        have hlt2 := hB1.lt
        have h2 := hB1.cell hlt
        have h3 := hB1.frozen k
        have hLk := hL k hlt
        clear h0
        go_wp2_with fail
        refine (cloneInts_any (A k) (L k) (C k) lo (Z k) wr hLk hk1.nil hk1).mono ?_
        rintro e w1 ⟨a', cap', rfl, hr', hb', _⟩
        have g2 : w1.cell? ⟨w.heap.size, k, none⟩ = some (if k < k then Value.slice (A' k) (L k) (C' k) else .slice none 0 0) := (hb'.cell (p := ⟨w.heap.size, k, none⟩) hlt2).trans h2
        have g3 : w1.frozen? ⟨w.heap.size, k, none⟩ = false := (hb'.frozen (p := ⟨w.heap.size, k, none⟩) hlt2).trans h3
        clear h1 h2 h3 
        go_wp2
        go_roundg (n - (k + 1))
        case measure => go_light; omega
        case rel => go_light; exact ⟨k + 1, by omega, rfl, by go_num, Copied2.step ⟨A', C', hB1, hB2, hB3⟩ hr' hb'⟩
      · obtain rfl : k = n := by omega
        go_wp2
        go_ret
        exact ⟨_, _, rfl, Copied2.mat ⟨A', C', hB1, hB2, hB3⟩, hB3, fun h => by cases h⟩

/-! ### maps of ints keyed by strings -/
abbrev I (n : Int) : DataW Unit := .lit (.int .i64 n)
theorem keyed9 : Keyed Try.prog 9 := string_keyed Try.underlying9
theorem zero3 (w : World) : (zeroValue 3).run Try.prog w = .ok (.int .i64 0) w := by kernel_rfl
/-- what a string reads as, as a key -/
def kl (s : ByteArray) : Lit := .string s.data.toList
theorem kl_key (s : ByteArray) : WideAt.IsKeyLit (kl s) := trivial
theorem key_ok {s : ByteArray} (h : s.size ≤ maxLen) : keyOf Try.prog 9 (.string s) = some (kl s) := keyOf_string_mk Try.underlying9 h
/-- A map value that reads as D: nil and empty, or a block. -/
def MapAt (w : World) (lo : Nat) (v : Value) (D : DataW Unit) : Prop :=
  (v = .map none ∧ D = .map []) ∨ ∃ b m, v = .map (some b) ∧ lo ≤ b ∧ w.ownsMap Try.prog 9 (plainElem Try.prog 3) b m D
theorem MapAt.below {w w' : World} {lo : Nat} {v : Value} {D : DataW Unit} (h : MapAt w lo v D) (hb : Below w.heap.size w w') : MapAt w' lo v D := by
  rcases h with h | ⟨b, m, rfl, hl, h⟩
  · exact .inl h
  · refine .inr ⟨b, m, rfl, hl, ?_⟩
    have hlt := h.lt
    obtain ⟨es, clock, h1, r⟩ := h
    exact ⟨es, clock, (hb.block b hlt).trans h1, r⟩
theorem MapAt.grown {w w' : World} {lo : Nat} {v : Value} {D : DataW Unit} (h : MapAt w lo v D) {row : Option Nat} (hg : w.grownBy w' row) (hr : ∀ k, row = some k → k < lo ∨ w.heap.size ≤ k) : MapAt w' lo v D := by
  rcases h with h | ⟨b, m, rfl, hl, h⟩
  · exact .inl h
  · have hlt := h.lt
    exact .inr ⟨b, m, rfl, hl, h.kept hg (fun e => by rcases hr b e.symm with h | h <;> omega)⟩
theorem MapAt.mono {w : World} {lo lo' : Nat} {v : Value} {D : DataW Unit} (h : MapAt w lo v D) (hl : lo' ≤ lo) : MapAt w lo' v D := by
  rcases h with h | ⟨b, m, rfl, hl', h⟩
  · exact .inl h
  · exact .inr ⟨b, m, rfl, Nat.le_trans hl hl', h⟩
theorem MapAt.look_ok {w : World} {lo : Nat} {v : Value} {D : DataW Unit} (h : MapAt w lo v D) {s : ByteArray} (hs : s.size ≤ maxLen) :
    ∃ c, (Instr.lookup 22 v (.string s) true).run Try.prog w = .ok (.tuple #[.int .i64 c, .bool (Maps.has D (kl s))]) w ∧ D.atKey (kl s) (I 0) = I c ∧ (Lit.int .i64 c).wf = true := by
  rcases h with ⟨rfl, rfl⟩ | ⟨b, m, rfl, hl, h⟩
  · exact ⟨0, look_nil (k := 9) true keyed9 Try.underlying22 (zero3 _) (key_ok hs), rfl, by decide⟩
  · obtain ⟨v, ps, hrun, hv⟩ := h.look_ok keyed9 Try.underlying22 (zero3 _) (plainElem_int Try.underlying3 (by decide)) (key_ok hs)
    obtain ⟨c, rfl, hc, hw⟩ := plainElem_int_inv Try.underlying3 hv
    exact ⟨c, hrun, congrArg Prod.fst hc, hw⟩
theorem MapAt.look {w : World} {lo : Nat} {v : Value} {D : DataW Unit} (h : MapAt w lo v D) {s : ByteArray} (hs : s.size ≤ maxLen) :
    ∃ c, (Instr.lookup 22 v (.string s) false).run Try.prog w = .ok (.int .i64 c) w ∧ D.atKey (kl s) (I 0) = I c ∧ (Lit.int .i64 c).wf = true := by
  rcases h with ⟨rfl, rfl⟩ | ⟨b, m, rfl, hl, h⟩
  · exact ⟨0, look_nil (k := 9) false keyed9 Try.underlying22 (zero3 _) (key_ok hs), rfl, by decide⟩
  · obtain ⟨c, hrun, hat, hw⟩ := h.lookup_int keyed9 Try.underlying22 Try.underlying3 (zero3 _) (key_ok hs)
    exact ⟨c, hrun, hat, hw⟩
theorem MapAt.len {w : World} {lo : Nat} {v : Value} {D : DataW Unit} (h : MapAt w lo v D) (ty : TypeId) : (Builtin.len_ #[22] ty #[v]).run Try.prog w = .ok (.int .i64 (Maps.size D)) w := by
  rcases h with ⟨rfl, rfl⟩ | ⟨b, m, rfl, hl, h⟩
  · exact len_nil Try.underlying22 ty
  · exact h.len Try.underlying22 ty

/-- every entry is a number below n -/
def NumOk (D : DataW Unit) (n : Nat) : Prop := IsMap D ∧ ∀ x, Maps.has D x = true → ∃ i : Nat, i < n ∧ D.atKey x (I 0) = I i
theorem NumOk.empty (n : Nat) : NumOk (.map []) n := ⟨isMap_empty, fun x h => by simp [Maps.has] at h⟩
theorem NumOk.put {D : DataW Unit} {n i : Nat} (h : NumOk D n) (hi : i < n) (s : ByteArray) : NumOk (D.put (kl s) (I i)) n := by
  refine ⟨h.1.put _ _, fun x hx => ?_⟩
  by_cases e : x = kl s
  · subst e
    exact ⟨i, hi, atKey_put_same h.1 (kl_key s) _ _⟩
  · rw [has_put_other e] at hx
    obtain ⟨j, hj, hat⟩ := h.2 x hx
    exact ⟨j, hj, by rw [atKey_put_other e]; exact hat⟩

/-- what zzB1NumberOf hands back -/
def RetNum (w : World) (n : Nat) (e : Ending) (w' : World) : Prop :=
  ∃ v D, e = .returned v ∧ (∃ b, v = .map (some b)) ∧ MapAt w' w.heap.size v D ∧ NumOk D n ∧ Below w.heap.size w w'

theorem run_makeMap_hint (w : World) (n : Int) : (Instr.makeMap 22 (some (.int .i64 n))).run Try.prog w = .ok (.map (some w.heap.size)) (w.alloc (.map #[] 0)) := by
  simp [Instr.makeMap, run_underlying Try.underlying22, asInt, asIntOf, Result.andThen]

set_option maxHeartbeats 1000000 in
theorem numberOf_any (a : Option Addr) (n cap lo : Nat) (S : Nat → ByteArray) (w : World) (hn : n ≤ 65536) (hS : ∀ i, i < n → (S i).size ≤ maxLen)
    (hr : Row w lo a n (fun i => .string (S i))) :
    Calls Try.prog 13 #[.slice a n cap] w fun e w' => RetNum w n e w' := by
  obtain ⟨b, off, ha, hc⟩ := hr
  have hmm := run_makeMap_hint
  go_enter Try.func13, Try.ntmps13
  go_wp2
  go_loopg [4] n (fun g s4 wr => ∃ k : Nat, k ≤ n ∧ g = n - k ∧ s4 = .int .i64 k ∧ (∃ D, wr.ownsMap Try.prog 9 (plainElem Try.prog 3) w.heap.size k D ∧ NumOk D n) ∧ Below w.heap.size w wr)
  case atStart => exact ⟨0, Nat.zero_le _, rfl, rfl, ⟨_, World.ownsMap_made _ _ _ _, NumOk.empty n⟩, (Below.refl _ _).alloc (Nat.le_refl _) _⟩
  case round =>
    obtain ⟨k, hk, rfl, rfl, ⟨D, hown, hok⟩, hB⟩ := hrel
    clear hmm
    by_cases hlt : k < n
    · obtain ⟨rfl, _⟩ := ha (by omega)
      have hbl : b < w.heap.size := World.block_lt_of_cell? _ _ (hc k hlt)
      have h1 : wr.cell? ⟨b, off + k, none⟩ = some (.string (S k)) := (hB.cell (p := ⟨b, off + k, none⟩) hbl).trans (hc k hlt)
      have hkey := key_ok (hS k hlt)
      go_wp2_with (at_mapUpdate; refine wpList_mapUpdate_own _ rfl _ _ _ 22 rfl 9 3 keyed9 Try.underlying22 _ w.heap.size k _ rfl hown (by unfold maxLen; omega) _ _ _ rfl rfl hkey _ [] (plainElem_int Try.underlying3 (WalkArith.wf_i64 (by omega))) ?_; intro w1 hown1 hgrow1)
      have R2 := hB.grown hgrow1 hB.size (fun j hj => by cases hj; exact Nat.le_refl _)
      clear hgrow1 hown h1
      go_roundg (n - (k + 1))
      case measure => go_light; omega
      case rel => go_light; exact ⟨k + 1, by omega, rfl, by go_num, ⟨_, hown1, hok.put hlt _⟩, R2⟩
    · obtain rfl : k = n := by omega
      go_wp2
      go_ret
      exact ⟨_, D, rfl, ⟨_, rfl⟩, .inr ⟨_, _, rfl, Nat.le_refl _, hown⟩, hok, hB⟩
end Go.Proofs.Qxb6601698a
