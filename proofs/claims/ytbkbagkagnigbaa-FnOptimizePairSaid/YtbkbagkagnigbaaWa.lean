/-
  PROVED HERE: what the small callees return and leave in memory: the making of a compiler, the operand of an instruction, the append of one pointer to the compiler's list.
  CONDITIONS: of operand: the kind of the instruction is 5, or none of 5, 6, 23; of append: the field holds a list of the call's own of at most 100 elements.
-/
import Derived.Test.YtbkbagkagnigbaaRows
import Derived.WalkKit
import Derived.ProofKit
import Derived.OpenShut
namespace Go.Proofs.Ytbkbagkagnigbaa
open Go.RowKit

theorem hidden {p : Prop} (h : p) : Hid p := h

/-- A row that owns at least one element is a slice that begins at the head of a block. -/
theorem row_shape {w : World} {base size n : Nat} {e : TypeId} {v : Value} {xs : List Value} (h : w.ownsRow base e size v (n + 1) xs) : ∃ g cap, v = .slice (some ⟨g, 0, none⟩) (n + 1) cap := by
  rcases h.2 with ⟨_, h0⟩ | ⟨g, cap, _, rfl, _⟩
  · omega
  · exact ⟨g, cap, rfl⟩

abbrev freshC : Obj := .cells #[.nilIface, .nilFunc, .slice none 0 0, .map none, .nilIface, .slice none 0 0, .slice none 0 0, .pointer none, .slice none 0 0, .int .i64 0] 47

theorem new_any (w : World) : Calls Try.prog 6 #[] w fun e w' => e = .returned (.pointer (some ⟨w.heap.size, 0, none⟩)) ∧ w' = w.alloc freshC := by
  go_enter Try.func6, Try.ntmps6
  go_wp2
  go_ret
  exact ⟨rfl, rfl⟩

theorem operand_load (a b c : Int) (w : World) : Calls Try.prog 8 #[.agg #[.int .i64 5, .int .i64 a, .int .i64 b, .int .i64 c]] w fun e w' => e = .returned (.iface 53 (.agg #[.int .i64 0, .int .i64 a])) ∧ w' = w.alloc (.cells #[.int .i64 5, .int .i64 a, .int .i64 b, .int .i64 c] 23) := by
  go_enter Try.func8, Try.ntmps8
  go_wp2
  go_ret
  exact ⟨rfl, rfl⟩

theorem operand_plain (d a b c : Int) (w : World) (h5 : (d == 5) = false) (h6 : (d == 6) = false) (h23 : (d == 23) = false) : Calls Try.prog 8 #[.agg #[.int .i64 d, .int .i64 a, .int .i64 b, .int .i64 c]] w fun e w' => e = .returned (.iface 3 (.int .i64 a)) ∧ w' = w.alloc (.cells #[.int .i64 d, .int .i64 a, .int .i64 b, .int .i64 c] 23) := by
  go_enter Try.func8, Try.ntmps8
  go_wp2
  go_ret
  exact ⟨rfl, rfl⟩

theorem Try.info49 : (Try.prog.info? 49).map (fun i => (i.zero, i.size, i.bytes)) = some (some (.pointer none), 1, 8) := by kernel_rfl

/-- What is left behind an append of the pointer to block k. -/
def Appended (C k : Nat) (w : World) (v : Value) (n : Nat) (xs : List Value) (e : Ending) (w' : World) : Prop :=
  e = .returned (.tuple #[]) ∧ ∃ v' w1, w1.ownsRow (C + 1) 49 1 v' (n + 1) (xs ++ [.pointer (some ⟨k, 0, none⟩)]) ∧ (w.alloc (.cells #[.pointer (some ⟨k, 0, none⟩)] 49)).grownBy w1 v.ownBlock ∧ w' = w1.setCell ⟨C, 5, none⟩ v'

set_option maxHeartbeats 400000 in
theorem append_any (C k : Nat) (w : World) (v : Value) (n : Nat) (xs : List Value) (hC : w.cell? ⟨C, 5, none⟩ = some v) (hf : w.frozen? ⟨C, 5, none⟩ = false) (hown : w.ownsRow (C + 1) 49 1 v n xs) (hn : n ≤ 100) (hlt : C < w.heap.size) :
    Calls Try.prog 13 #[.pointer (some ⟨C, 0, none⟩), .pointer (some ⟨k, 0, none⟩)] w (Appended C k w v n xs) := by
  obtain ⟨i0, hi, hz0, hz1, hz2⟩ := info_parts Try.info49
  go_enter Try.func13, Try.ntmps13
  go_wp2_with (first
    | (at_builtin; refine wpList_append_own _ rfl _ _ 42 rfl (C + 1) 49 i0 (.pointer none) 1 8 Try.underlying42 hi hz0 hz1 hz2 rfl (by decide) _ _ _ rfl (hown.alloc _) ⟨w.heap.size, 0, none⟩ 1 1 [.pointer (some ⟨k, 0, none⟩)] rfl rfl ?c1 ?c2 ?c3 ?c4 ?c5 ?_))
  case c1 =>
    intro j u hj
    match j, hj with
    | 0, hj => simp at hj; subst hj; simp [Addr.add]
  case c2 => intro u hu; simp at hu; subst hu; rfl
  case c3 => unfold maxLen; omega
  case c4 => omega
  case c5 => simp; omega
  intro v' w1 hown' hgrow _
  have hlt0 : ∀ q, v.ownBlock = some q → C + 1 ≤ q := fun q hq => (hown.lt q hq).1
  have hne : some C ≠ v.ownBlock := fun h => by have := hlt0 C h.symm; omega
  have hb : w1.heap[C]? = w.heap[C]? := (hgrow.block C (by simp; omega) hne).trans (Below.heap_alloc w _ C hlt)
  have hC1 : w1.cell? ⟨C, 5, none⟩ = some v := (World.cell?_of_block (w := w) hb).trans hC
  have hf1 : w1.frozen? ⟨C, 5, none⟩ = false := (World.frozen?_of_block (w := w) hb).trans hf
  obtain ⟨g, cap, rfl⟩ := row_shape hown'
  have HG := hidden hgrow
  have HO := hidden hown'
  clear hgrow hown' hlt0 hne hb hC hf hown
  go_wp2
  go_end0
  exact ⟨rfl, _, w1, HO.out, HG.out, rfl⟩

end Go.Proofs.Ytbkbagkagnigbaa
