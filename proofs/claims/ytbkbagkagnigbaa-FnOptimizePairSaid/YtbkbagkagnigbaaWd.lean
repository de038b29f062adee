/-
  PROVED HERE: an instruction is read back out of the compiler's list as it lies there, and as plain data it bears its own kind.
  CONDITIONS: the place lies in the list; the operand is a number or a pair of numbers.
-/
import Derived.Test.YtbkbagkagnigbaaWb
import Derived.Deep.QuietTactic
import Derived.BigQuiet
import Derived.Handy
namespace Go.Proofs.Ytbkbagkagnigbaa
open Go.RowKit

set_option maxRecDepth 100000 in
theorem at_walk (C g cap k i n : Nat) (o : Int) (t : TypeId) (x : Value) (w : World) (hi : i < n)
    (hC : w.cell? ⟨C, 5, none⟩ = some (.slice (some ⟨g, 0, none⟩) n cap)) (hg : w.cell? ⟨g, i, none⟩ = some (.pointer (some ⟨k, 0, none⟩)))
    (h1 : w.cell? ⟨k, 1, none⟩ = some (.int .i64 o)) (h0 : w.cell? ⟨k, 0, none⟩ = some (.iface t x)) :
    Calls Try.prog 12 #[.pointer (some ⟨C, 0, none⟩), .int .i64 i] w fun e w' => e = .returned (.tuple #[.int .i64 o, .iface t x]) ∧ ∃ m, w' = w.drewN m := by
  go_enter Try.func12, Try.ntmps12
  go_wp2
  go_quiet (fail)
  go_wp2
  go_ret2
  exact ⟨rfl, _, rfl⟩

theorem as3_3 (v : Value) (w : World) : (Instr.typeAssert (.iface 3 v) 20 3 true).run Try.prog w = .ok (.tuple #[v, .bool true]) w := by kernel_rfl
theorem as53_3 (v : Value) (w : World) : (Instr.typeAssert (.iface 53 v) 20 3 true).run Try.prog w = .ok (.tuple #[.int .i64 0, .bool false]) w := by kernel_rfl
theorem as53_53 (v : Value) (w : World) : (Instr.typeAssert (.iface 53 v) 20 53 true).run Try.prog w = .ok (.tuple #[v, .bool true]) w := by kernel_rfl

/-- What stands behind the turning of an instruction into plain data: its kind is the given one, its first number some number. -/
def Stepped (op : Int) (w : World) (e : Ending) (w' : World) : Prop :=
  (∃ x : Int, e = .returned (.agg #[.int .i64 op, .int .i64 x, .int .i64 0, .int .i64 0])) ∧ Below w.heap.size w w'

theorem step_plain (op a : Int) (w : World) (h : (op == 0) = false) : Calls Try.prog 11 #[.int .i64 op, .iface 3 (.int .i64 a)] w (Stepped op w) := by
  have q1 := as3_3
  go_enter Try.func11, Try.ntmps11
  go_wp2
  go_returns
  refine ⟨⟨_, rfl⟩, ?_⟩
  go_grown

theorem step_pair (op a : Int) (w : World) (h : (op == 0) = false) : Calls Try.prog 11 #[.int .i64 op, .iface 53 (.agg #[.int .i64 0, .int .i64 a])] w (Stepped op w) := by
  have q1 := as53_3
  have q2 := as53_53
  go_enter Try.func11, Try.ntmps11
  go_wp2
  go_returns
  refine ⟨⟨_, rfl⟩, ?_⟩
  go_grown

theorem step_plain_nop (a : Int) (w : World) : Calls Try.prog 11 #[.int .i64 0, .iface 3 (.int .i64 a)] w (Stepped 0 w) := by
  have q1 := as3_3
  go_enter Try.func11, Try.ntmps11
  go_wp2
  go_returns
  refine ⟨⟨_, rfl⟩, ?_⟩
  go_grown

theorem step_pair_nop (a : Int) (w : World) : Calls Try.prog 11 #[.int .i64 0, .iface 53 (.agg #[.int .i64 0, .int .i64 a])] w (Stepped 0 w) := by
  have q1 := as53_3
  have q2 := as53_53
  go_enter Try.func11, Try.ntmps11
  go_wp2
  go_returns
  refine ⟨⟨_, rfl⟩, ?_⟩
  go_grown

/-- An operand that the statement's instructions bear: a number, or a pair of numbers. -/
def IsOpnd (v : Value) : Prop := (∃ a, v = .iface 3 (.int .i64 a)) ∨ (∃ a, v = .iface 53 (.agg #[.int .i64 0, .int .i64 a]))

theorem step_any (op : Int) (v : Value) (w : World) (hv : IsOpnd v) : Calls Try.prog 11 #[.int .i64 op, v] w (Stepped op w) := by
  rcases hv with ⟨a, rfl⟩ | ⟨a, rfl⟩
  · by_cases h : op = 0
    · subst h; exact step_plain_nop a w
    · exact step_plain op a w (by simp [h])
  · by_cases h : op = 0
    · subst h; exact step_pair_nop a w
    · exact step_pair op a w (by simp [h])

end Go.Proofs.Ytbkbagkagnigbaa
