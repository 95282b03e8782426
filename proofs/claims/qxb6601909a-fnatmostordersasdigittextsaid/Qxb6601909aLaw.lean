/- Walk: the law FnAtMostOrdersAsDigitText. -/
import Derived.Test.Qxb6601909aPlain
namespace Go.Proofs.Qxb6601909a
open Go.RowKit

def RetTrue (w : World) (e : Ending) (w' : World) : Prop := e = .returned (.bool true) ∧ Below w.heap.size w w'

theorem toList_ne {s t : ByteArray} (h : s ≠ t) : (s.toList == t.toList) = false := by
  rw [ByteArray.toList_eq, ByteArray.toList_eq]
  apply beq_false_of_ne
  intro e
  apply h
  cases s; cases t
  simp at e
  rw [e]

set_option maxHeartbeats 2000000 in
theorem law_any (a : ByteArray) (az : Int) (b : ByteArray) (bz : Int) (bound : Int) (ha : a.size ≤ maxLen) (hb : b.size ≤ maxLen) (w : World) :
    Calls Try.prog 4 #[.string a, .int .i64 az, .string b, .int .i64 bz, .int .i64 bound] w fun e w' => RetTrue w e w' := by
  have ha' := ha
  have hb' := hb
  unfold maxLen at ha' hb'
  go_enter Try.func4, Try.ntmps4
  go_wp2_with fail
  refine (bytes_any a b _ _ _ ha hb _).mono ?_
  rintro e w1 ⟨x, rfl, rfl, hsz⟩
  by_cases hx : x = true
  case neg => 
    obtain rfl : x = false := by simpa using hx
    go_wp2
    go_ret
    exact ⟨rfl, Below.refl _ _⟩
  obtain ⟨s1, s2⟩ := hsz hx
  subst hx
  clear hsz ha' hb'
  by_cases hsum : a.size + b.size ≤ 1048576
  case neg => 
    go_wp2
    all_goals (go_ret; exact ⟨rfl, Below.refl _ _⟩)
  go_wp2_with fail
  refine (decimal_any a ha _).mono ?_
  rintro e w1 ⟨x, rfl, rfl, hda⟩
  by_cases hx : x = true
  case neg => 
    obtain rfl : x = false := by simpa using hx
    go_wp2
    go_ret
    exact ⟨rfl, Below.refl _ _⟩
  have Hda : Hid (Dec a) := hda hx
  subst hx
  clear hda
  go_wp2_with fail
  refine (decimal_any b hb _).mono ?_
  rintro e w1 ⟨x, rfl, rfl, hda⟩
  by_cases hx : x = true
  case neg => 
    obtain rfl : x = false := by simpa using hx
    go_wp2
    go_ret
    exact ⟨rfl, Below.refl _ _⟩
  have Hdb : Hid (Dec b) := hda hx
  subst hx
  clear hda
  go_wp2_with fail
  refine (zeros_any a ha _).mono ?_
  rintro e w1 ⟨x, rfl, rfl, hza⟩
  by_cases hx : az = x
  case neg => 
    go_wp2
    go_ret
    exact ⟨rfl, Below.refl _ _⟩
  subst hx
  have Hza : Hid (Zeros a x) := hza
  have ga := hza.le
  clear hza
  go_wp2_with fail
  refine (zeros_any b hb _).mono ?_
  rintro e w1 ⟨y, rfl, rfl, hzb⟩
  by_cases hx : bz = y
  case neg => 
    go_wp2
    go_ret
    exact ⟨rfl, Below.refl _ _⟩
  subst hx
  have Hzb : Hid (Zeros b y) := hzb
  have gb := hzb.le
  clear hzb
  have hla : (a.extract x a.size).size = a.size - x := by simp
  have hlb : (b.extract y b.size).size = b.size - y := by simp
  by_cases n1 : (a.extract x a.size).size < 19
  case neg => 
    go_wp2
    go_ret
    exact ⟨rfl, Below.refl _ _⟩
  by_cases n2 : (b.extract y b.size).size < 19
  case neg => 
    go_wp2
    go_ret
    exact ⟨rfl, Below.refl _ _⟩
  have Sa : Hid (Sig (a.extract x a.size)) := sig_extract Hda Hza
  have Sb : Hid (Sig (b.extract y b.size)) := sig_extract Hdb Hzb
  have htri := trichotomy Sa Sb
  have cA := zat_any a x bound ha ga Sa.dec n1
  have cB := zat_any b y bound hb gb Sb.dec n2
  have m1 : (a.extract x a.size).size ≤ maxLen := by unfold maxLen; omega
  have m2 : (b.extract y b.size).size ≤ maxLen := by unfold maxLen; omega
  have cL := less_any (a.extract x a.size) (b.extract y b.size) m1 m2
  generalize val (a.extract x a.size) (a.extract x a.size).size = va at htri cA
  generalize val (b.extract y b.size) (b.extract y b.size).size = vb at htri cB
  clear Sa Sb m1 m2 Hza Hzb Hda Hdb
  go_wp2_with fail
  refine (cA _).mono ?_
  rintro e w1 ⟨rfl, hB1⟩
  go_wp2_with fail
  refine (cB _).mono ?_
  rintro e w2 ⟨rfl, hB2⟩
  have hB := hB1.trans (hB2.mono hB1.size)
  clear hB1 hB2 cA cB
  generalize a.extract x a.size = sa at *
  generalize b.extract y b.size = sb at *
  go_wp2_with fail
  refine (cL _).mono ?_
  rintro e w3 ⟨l, rfl, hB3, hl⟩
  have hB4 := hB.trans (hB3.mono hB.size)
  clear hB hB3 cL
  rcases htri with ⟨h1, h2, h3⟩ | ⟨h1, h2, h3⟩ | ⟨h1, h2, h3⟩
  · obtain rfl : l = true := hl.2 h1
    clear hl
    have q1 := toList_ne h3
    have q2 : ((va : Int) == (vb : Int)) = false := beq_false_of_ne (by omega)
    by_cases c1 : (va : Int) ≤ bound
    · go_wp2
      all_goals first | (exfalso; simp_all; done) | (go_ret; exact ⟨rfl, hB4⟩)
    · have c2 : ¬ (vb : Int) ≤ bound := by omega
      go_wp2
      all_goals first | (exfalso; simp_all; done) | (go_ret; exact ⟨rfl, hB4⟩)
  · obtain rfl : l = false := by
      cases l
      · rfl
      · exact absurd (hl.1 rfl) h1
    subst h3 h2
    clear hl
    by_cases c1 : (va : Int) ≤ bound
    · go_wp2
      go_ret
      exact ⟨rfl, hB4⟩
    · go_wp2
      go_ret
      exact ⟨rfl, hB4⟩
  · obtain rfl : l = false := by
      cases l
      · rfl
      · exact absurd (hl.1 rfl) h1
    clear hl
    have q1 := toList_ne h3
    have q2 : ((va : Int) == (vb : Int)) = false := beq_false_of_ne (by omega)
    go_wp2
    all_goals first | (exfalso; simp_all; done) | (go_ret; exact ⟨rfl, hB4⟩)
end Go.Proofs.Qxb6601909a
