/- Composite values: what 'Op.build' gives at this program's structs, and its law in a quiet walk. -/
import Derived.Test.Qxb6601797aPcs
import Derived.Laws.Tables
namespace Go.Proofs.Qxb6601797a

theorem list6 {S : List Value} (h : S.length = 6) : ∃ a b c d e f, S = [a, b, c, d, e, f] := by
  match S, h with
  | [a, b, c, d, e, f], _ => exact ⟨a, b, c, d, e, f, rfl⟩
theorem list16 {S : List Value} (h : S.length = 16) : ∃ a b c d e f g i j k l m n o p q, S = [a, b, c, d, e, f, g, i, j, k, l, m, n, o, p, q] := by
  match S, h with
  | [a, b, c, d, e, f, g, i, j, k, l, m, n, o, p, q], _ => exact ⟨a, b, c, d, e, f, g, i, j, k, l, m, n, o, p, q, rfl⟩
theorem list17 {S : List Value} (h : S.length = 17) : ∃ a b c d e f g i j k l m n o p q r, S = [a, b, c, d, e, f, g, i, j, k, l, m, n, o, p, q, r] := by
  match S, h with
  | [a, b, c, d, e, f, g, i, j, k, l, m, n, o, p, q, r], _ => exact ⟨a, b, c, d, e, f, g, i, j, k, l, m, n, o, p, q, r, rfl⟩
theorem list18 {S : List Value} (h : S.length = 18) : ∃ a b c d e f g i j k l m n o p q r s, S = [a, b, c, d, e, f, g, i, j, k, l, m, n, o, p, q, r, s] := by
  match S, h with
  | [a, b, c, d, e, f, g, i, j, k, l, m, n, o, p, q, r, s], _ => exact ⟨a, b, c, d, e, f, g, i, j, k, l, m, n, o, p, q, r, s, rfl⟩

theorem built30 {S : List Value} (h : S.length = 16) (q : Int) : Try.prog.built 30 [(0, .agg S.toArray), (1, .int .u64 q)] = some (S ++ [Value.int .u64 q]).toArray := by
  obtain ⟨a, b, c, d, e, f, g, i, j, k, l, m, n, o, p, q, rfl⟩ := list16 h
  kernel_rfl
theorem built103 {S : List Value} (h : S.length = 17) (q : Int) : Try.prog.built 103 [(0, .agg S.toArray), (1, .int .i64 q)] = some (S ++ [Value.int .i64 q]).toArray := by
  obtain ⟨a, b, c, d, e, f, g, i, j, k, l, m, n, o, p, q, r, rfl⟩ := list17 h
  kernel_rfl
theorem built114 {S : List Value} (h : S.length = 17) (q : Bool) : Try.prog.built 114 [(0, .agg S.toArray), (1, .bool q)] = some (S ++ [Value.bool q]).toArray := by
  obtain ⟨a, b, c, d, e, f, g, i, j, k, l, m, n, o, p, q, r, rfl⟩ := list17 h
  kernel_rfl
theorem built116 {S : List Value} (h : S.length = 17) (q : Bool) : Try.prog.built 116 [(0, .agg S.toArray), (1, .bool q)] = some (S ++ [Value.bool q]).toArray := by
  obtain ⟨a, b, c, d, e, f, g, i, j, k, l, m, n, o, p, q, r, rfl⟩ := list17 h
  kernel_rfl
theorem built77 {S U : List Value} (h : S.length = 17) (hU : U.length = 6) (k : Int) (ta : Option Addr) (tn tc : Nat) (clock : Int) (del : Bool) (ma : Option Addr) (mn mc : Nat) (next pri size : Int) :
    Try.prog.built 77 [(0, .agg S.toArray), (1, .int .i64 k), (2, .slice ta tn tc), (3, .int .u64 clock), (4, .bool del), (5, .slice ma mn mc), (6, .int .i32 next), (7, .agg U.toArray), (8, .int .u64 pri), (9, .int .i64 size)] =
      some (S ++ [Value.int .i64 k, .slice ta tn tc, .int .u64 clock, .bool del, .slice ma mn mc, .int .i32 next] ++ U ++ [Value.int .u64 pri, Value.int .i64 size]).toArray := by
  obtain ⟨a, b, c, d, e, f, g, i, j, k, l, m, n, o, p, q, r, rfl⟩ := list17 h
  obtain ⟨a, b, c, d, e, f, rfl⟩ := list6 hU
  kernel_rfl
theorem built121 {S U : List Value} (h : S.length = 18) (hU : U.length = 6) (ta : Option Addr) (tn tc : Nat) (clock : Int) (del : Bool) (ma : Option Addr) (mn mc : Nat) (next pri size : Int) :
    Try.prog.built 121 [(0, .agg S.toArray), (1, .slice ta tn tc), (2, .int .u64 clock), (3, .bool del), (4, .slice ma mn mc), (5, .int .i32 next), (6, .agg U.toArray), (7, .int .u64 pri), (8, .int .i64 size)] =
      some (S ++ [Value.slice ta tn tc, .int .u64 clock, .bool del, .slice ma mn mc, .int .i32 next] ++ U ++ [Value.int .u64 pri, Value.int .i64 size]).toArray := by
  obtain ⟨a, b, c, d, e, f, g, i, j, k, l, m, n, o, p, q, r, s, rfl⟩ := list18 h
  obtain ⟨a, b, c, d, e, f, rfl⟩ := list6 hU
  kernel_rfl

theorem built73 (a b c : Int) : Try.prog.built 73 [(0, .int .i32 a), (1, .int .i32 b), (2, .int .i32 c)] = some [Value.int .i32 a, .int .i32 b, .int .i32 c].toArray := by kernel_rfl
theorem built118 (a b c : Int) : Try.prog.built 118 [(0, .int .i32 a), (1, .int .i32 b), (2, .int .i32 c)] = some [Value.int .i32 a, .int .i32 b, .int .i32 c].toArray := by kernel_rfl

/-- a composite value in a quiet walk -/
theorem quiet_build {P : Program} {op : Oper} {a : Act} {C : World → Prop} {K : Act → Prop} (t : TypeId) (ps : List (Nat × Operand)) (ho : op.op = .build t ps.toArray)
    (vs : List (Nat × Value)) (hv : ps.map (fun p => (p.1, a.eval p.2)) = vs) (cells : Array Value) (hb : P.built t vs = some cells)
    (h : K (a.put op.dst (.agg cells))) : op.quiet P a C K := by
  refine ⟨.agg cells, fun w hw => ?_, h⟩
  unfold Oper.quietAt execOp
  have := run_build (P := P) w t (ps.toArray.map fun (i, x) => (i, a.eval x)) cells (by
    rw [Array.toList_map, List.toList_toArray, hv]
    exact hb)
  simp only [ho, Sem.run_bind, Sem.run_pure, Result.andThen_ok, this]
  exact ⟨rfl, rfl⟩
/-- and in a plain region -/
theorem wpList_build {P : Program} {ops : Array Oper} {rest : List Oper} {op : Oper} {a : Act} {w : World} {Q : Exit → Act → World → Prop} (hgd : op.guard = none) (t : TypeId) (ps : List (Nat × Operand)) (ho : op.op = .build t ps.toArray)
    (vs : List (Nat × Value)) (hv : ps.map (fun p => (p.1, a.eval p.2)) = vs) (cells : Array Value) (hb : P.built t vs = some cells)
    (h : wpList P ops Q rest (a.put op.dst (.agg cells)) w) : wpList P ops Q (op :: rest) a w := by
  refine wpList_plain hgd fun K hK => ?_
  unfold Oper.wp execOp
  have := run_build (P := P) w t (ps.toArray.map fun (i, x) => (i, a.eval x)) cells (by
    rw [Array.toList_map, List.toList_toArray, hv]
    exact hb)
  simp only [ho, Sem.run_bind, Sem.run_pure, Result.andThen_ok, this]
  exact hK _ _ h
end Go.Proofs.Qxb6601797a
