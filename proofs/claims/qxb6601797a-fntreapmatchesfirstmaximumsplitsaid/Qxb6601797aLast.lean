/- A region that draws its order, whose operations only read, but for the LAST one, which waits for all the others (a store at its end):
   one walk in the order of the text, then the last operation, serves every order. A turn of Derived/Deep/Quiet.lean's law. No Go text here. -/
import Derived.Test.Qxb6601797aBase
import Derived.Deep.QuietTactic
import Derived.BigQuiet
namespace Go.Proofs.Qxb6601797a
open Go

def initL : List Oper → List Oper
  | [] => []
  | [_] => []
  | a :: b :: l => a :: initL (b :: l)
def lastL : List Oper → List Oper
  | [] => []
  | [a] => [a]
  | _ :: b :: l => lastL (b :: l)

theorem initL_lastL : ∀ l : List Oper, initL l ++ lastL l = l
  | [] => rfl
  | [_] => rfl
  | a :: b :: l => by
    have := initL_lastL (b :: l)
    simp only [initL, lastL, List.cons_append, this]
theorem lastL_one : ∀ l : List Oper, l ≠ [] → ∃ o, lastL l = [o]
  | [], h => absurd rfl h
  | [a], _ => ⟨a, rfl⟩
  | _ :: b :: l, _ => lastL_one (b :: l) (by simp)

section
variable {P : Program} {ops : Array Oper} {C : World → Prop} {z : Nat}

/-- whatever order of the first ones is picked; then the last one alone may come up, and behind it none -/
def wpPre (P : Program) (ops : Array Oper) (C : World → Prop) (z : Nat) (T : Act → Prop) : Nat → Array Bool → Act → Prop
  | 0, listed, a => Region.ready .any ops listed = [z] ∧ Region.ready .any ops (listed.setIfInBounds z true) = [] ∧ T a
  | n + 1, listed, a => Region.ready .any ops listed ≠ [] ∧ ∀ i ∈ Region.ready .any ops listed, qOp P ops C i (wpPre P ops C z T n (listed.setIfInBounds i true)) a

theorem notReady {i : Nat} {oz : Oper} {listed : Array Bool} (hz : ops[z]? = some oz) (hw : ∃ e ∈ oz.after, Region.binds .any e = true ∧ e.on = i) (hr : i ∈ Region.ready .any ops listed) : z ∉ Region.ready .any ops listed := by
  intro hj
  obtain ⟨_, oj, hoj, hall⟩ := mem_ready.1 hj
  rw [hz] at hoj
  cases hoj
  obtain ⟨e, he, hb, heq⟩ := hw
  have h1 := hall e he hb
  have h0 := (mem_ready.1 hr).1
  rw [heq] at h1
  rcases Nat.lt_or_ge i listed.size with h' | h'
  · simp [h'] at h0 h1; rw [h0] at h1; cases h1
  · simp [Array.getElem?_eq_none h'] at h1

theorem wpPre_first {T : Act → Prop} {i : Nat} {oi oz : Oper} {v : Value} (hi : ops[i]? = some oi) (hz : ops[z]? = some oz) (hw : ∃ e ∈ oz.after, Region.binds .any e = true ∧ e.on = i)
    (hsel : ∀ (j : Nat) (o : Oper) cs b, ops[j]? = some o → o.op ≠ .select cs b) :
    ∀ (n : Nat) (listed : Array Bool) (a : Act),
      (∀ j oj, ops[j]? = some oj → j ≠ i → listed.getD j true = false → (∀ e ∈ oj.after, Region.binds .any e = true → e.on ≠ i) → oi.apart ops oj = true) →
      i ∈ Region.ready .any ops listed → YieldsIn P ops C oi v a →
      wpPre P ops C z T n (listed.setIfInBounds i true) (a.put oi.dst v) → wpPre P ops C z T (n + 1) listed a := by
  intro n
  induction n with
  | zero =>
    intro listed a _ hr hy H
    refine ⟨fun h => (by rw [h] at hr; cases hr), fun j hj => ?_⟩
    by_cases hji : j = i
    · subst hji; exact hy.qOp hi H
    · have := ready_mono hj hji
      rw [H.1] at this
      simp only [List.mem_singleton] at this
      subst this
      exact absurd hj (notReady hz hw hr)
  | succ n ih =>
    intro listed a hfree hr hy H
    refine ⟨fun h => (by rw [h] at hr; cases hr), fun j hj => ?_⟩
    by_cases hji : j = i
    · subst hji; exact hy.qOp hi H
    · have h1 := H.2 j (ready_mono hj hji)
      obtain ⟨hjun, oj, hoj, hall⟩ := mem_ready.1 hj
      have hnot : ∀ e ∈ oj.after, Region.binds .any e = true → e.on ≠ i := fun e he hb heq => by
        exact notReady hoj ⟨e, he, hb, heq⟩ hr hj
      have h2 := qOp_put hoj (hfree j oj hoj hji hjun hnot) (fun cs b => hsel i oi cs b hi) (fun cs b => hsel j oj cs b hoj) hy h1
      have hfree' : ∀ k ok, ops[k]? = some ok → k ≠ i → (listed.setIfInBounds j true).getD k true = false →
          (∀ e ∈ ok.after, Region.binds .any e = true → e.on ≠ i) → oi.apart ops ok = true := fun k ok hk hki hun hno => by
        refine hfree k ok hk hki ?_ hno
        by_cases hjk : j = k
        · subst hjk; exact hjun
        · rw [getD_set_ne true hjk] at hun; exact hun
      refine qOp_mono (fun a' h3 => ih (listed.setIfInBounds j true) a' hfree' (ready_mono hr (Ne.symm hji)) h3.1 ?_) h2
      rw [Array.setIfInBounds_comm _ _ hji]
      exact h3.2

def waitsB (ops : Array Oper) (z i : Nat) : Bool := match ops[z]? with
  | some oz => oz.after.any fun e => Region.binds .any e && e.on == i
  | none => false
def lexLast (ops : Array Oper) (z : Nat) : Nat → Nat → Array Bool → Bool
  | 0, _, listed => decide (Region.ready .any ops listed = [z]) && decide (Region.ready .any ops (listed.setIfInBounds z true) = [])
  | n + 1, k, listed => (Region.ready .any ops listed).contains k && Region.free .any ops listed k && waitsB ops z k && lexLast ops z n (k + 1) (listed.setIfInBounds k true)

theorem wpPre_lex {T : Act → Prop} (hs : Region.noSelect ops = true) : ∀ (l : List Oper) (k : Nat) (listed : Array Bool) (a : Act), (∀ j, j < l.length → l[j]? = ops[k + j]?) →
    lexLast ops z l.length k listed = true → wpQuiet P ops C T l a → wpPre P ops C z T l.length listed a
  | [], _, _, _, _, hB, h => by
    simp only [List.length_nil, lexLast, Bool.and_eq_true, decide_eq_true_eq] at hB
    exact ⟨hB.1, hB.2, h⟩
  | o :: l, k, listed, a, hl, hB, h => by
    have h0 : ops[k]? = some o := by simpa using (hl 0 (by simp)).symm
    simp only [List.length_cons, lexLast, Bool.and_eq_true] at hB
    obtain ⟨⟨⟨hr, hf⟩, hwt⟩, hB'⟩ := hB
    have hst : qOp P ops C k (wpQuiet P ops C T l) a := by unfold qOp; simp only [h0]; exact h
    obtain ⟨v, hy, hK⟩ := yieldsIn_of_qOp h0 hst
    unfold waitsB at hwt
    split at hwt
    · rename_i oz hoz
      obtain ⟨e, he, hb⟩ := Array.any_eq_true'.1 hwt
      simp only [Bool.and_eq_true, beq_iff_eq] at hb
      exact wpPre_first h0 hoz ⟨e, he, hb.1, hb.2⟩ (Region.noSelect_spec hs) l.length listed a (Region.free_spec h0 hf) (by simpa using hr) hy
        (wpPre_lex hs l (k + 1) _ _ (fun j hj => by have := hl (j + 1) (by simp; omega); simpa [Nat.add_assoc, Nat.add_comm 1 j] using this) hB' hK)
    · cases hwt

theorem wpAny_of_pre {T : Act → Prop} {Q : Exit → Act → World → Prop} {oz : Oper} (hz : ops[z]? = some oz) (hT : ∀ a w, C w → T a → wpList P ops Q [oz] a w) : ∀ (n : Nat) (listed : Array Bool) (a : Act) (w : World), C w →
    wpPre P ops C z T n listed a → wpAny P .any ops Q (n + 1) listed a w
  | 0, listed, a, w, hw, h => by
    obtain ⟨h1, h2, h3⟩ := h
    refine ⟨fun h0 => by rw [h0] at h1; simp at h1, fun i hi => ?_⟩
    rw [h1] at hi
    simp only [List.mem_singleton] at hi
    subst hi
    refine wpOp_mono (K := fun a' w' => Q .normal a' w') (fun a' w' hq => ⟨h2, hq⟩) ?_
    unfold wpOp
    simp only [hz]
    exact hT a w hw h3
  | n + 1, listed, a, w, hw, h => ⟨fun h0 => absurd h0 h.1, fun i hi => wpOp_of_qOp hw (fun a' w' hw' => wpAny_of_pre hz hT n _ a' w' hw') (h.2 i hi)⟩
end

def lastB (l : List Oper) : Bool := Region.noSelect l.toArray && lexLast l.toArray (initL l).length (initL l).length 0 (Array.replicate l.toArray.size false)

theorem wp_region_last {P : Program} {id : Nat} {Q : Exit → Act → World → Prop} {a : Act} {w : World} {l : List Oper} (hm : P.follows .mixedOrders = true) (hne : l.isEmpty = false) (hB : lastB l = true)
    (h : wpQuiet P l.toArray (fun w' => ∃ n, w' = w.drewN n) (fun a' => ∀ w', (∃ n, w' = w.drewN n) → wpList P l.toArray Q (lastL l) a' w') (initL l) a) : (Code.region id l.toArray true).wp P Q a w := by
  obtain ⟨oz, hoz⟩ := lastL_one l (by intro h; rw [h] at hne; cases hne)
  have hall := initL_lastL l
  have hlen : l.length = (initL l).length + 1 := by
    have := congrArg List.length hall
    rw [hoz] at this
    simp at this
    omega
  simp only [lastB, Bool.and_eq_true] at hB
  have hz : l.toArray[(initL l).length]? = some oz := by
    rw [List.getElem?_toArray]
    have h1 : (initL l ++ lastL l)[(initL l).length]? = some oz := by rw [hoz]; simp
    rwa [hall] at h1
  rw [hoz] at h
  refine wp_region_any hm ?_
  have hp := wpPre_lex (P := P) (C := fun w' => ∃ n, w' = w.drewN n) hB.1 (initL l) 0 (Array.replicate l.toArray.size false) a (fun j hj => by
    rw [List.getElem?_toArray, Nat.zero_add]
    have h1 : (initL l ++ lastL l)[j]? = (initL l)[j]? := List.getElem?_append_left hj
    rw [hall] at h1
    exact h1.symm) hB.2 h
  have := wpAny_of_pre hz (fun a w' hw h => h w' hw) _ _ a { w with drawn := w.drawn + 1 } ⟨1, rfl⟩ hp
  rw [show l.toArray.size = (initL l).length + 1 by simp; omega]
  rw [show l.toArray.size = (initL l).length + 1 by simp; omega] at this
  exact this

theorem wpList_of_quiet {P : Program} {ops : Array Oper} {C : World → Prop} {Q : Exit → Act → World → Prop} {rest : List Oper} : ∀ (l : List Oper) (a : Act) (w : World), C w →
    wpQuiet P ops C (fun a' => ∀ w', C w' → wpList P ops Q rest a' w') l a → wpList P ops Q (l ++ rest) a w
  | [], _, w, hw, h => h w hw
  | o :: l, a, w, hw, h => by
    refine wpList_step fun K hK => ?_
    unfold wpQuiet at h
    split at h
    · rename_i hwant
      rw [if_pos hwant]
      exact Oper.wp_of_quiet (K' := K) hw (fun a' w' hw' hk => hK a' w' (wpList_of_quiet l a' w' hw' hk)) h
    · rename_i hwant
      rw [if_neg hwant]
      exact hK _ _ (wpList_of_quiet l _ w hw h)

/-- the same walk in a region that does not draw -/
theorem wp_region_plain_last {P : Program} {id : Nat} {Q : Exit → Act → World → Prop} {a : Act} {w : World} {l : List Oper}
    (h : wpQuiet P l.toArray (fun w' => ∃ n, w' = w.drewN n) (fun a' => ∀ w', (∃ n, w' = w.drewN n) → wpList P l.toArray Q (lastL l) a' w') (initL l) a) : (Code.region id l.toArray false).wp P Q a w := by
  refine wp_region_lit ?_
  have := wpList_of_quiet (initL l) a w ⟨0, rfl⟩ h
  rw [initL_lastL] at this
  exact this
end Go.Proofs.Qxb6601797a
