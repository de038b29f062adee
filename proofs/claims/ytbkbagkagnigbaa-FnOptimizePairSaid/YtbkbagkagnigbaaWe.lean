/-
  PROVED HERE: the check of a list of four instructions answers true and writes no memory that was there.
  CONDITIONS: the kinds are 5; 1, 3 or 5; 2 or 4; 24; only the first three bear numbers.
-/
import Derived.Test.YtbkbagkagnigbaaWd
import Derived.LoopN
namespace Go.Proofs.Ytbkbagkagnigbaa
open Go.RowKit

/-- Block L holds the four instructions of the statement. -/
abbrev prog4 (d1 a1 d2 a2 : Int) : Obj := .cells #[.int .i64 5, .int .i64 2, .int .i64 0, .int .i64 0, .int .i64 d1, .int .i64 a1, .int .i64 0, .int .i64 0, .int .i64 d2, .int .i64 a2, .int .i64 0, .int .i64 0, .int .i64 24, .int .i64 0, .int .i64 0, .int .i64 0] 23 (0, 0)

set_option maxHeartbeats 1600000 in
set_option maxRecDepth 100000 in
theorem check_walk (L : Nat) (d1 a1 d2 a2 : Int) (w : World) (h1 : d1 = 1 ∨ d1 = 3 ∨ d1 = 5) (h2 : d2 = 2 ∨ d2 = 4) (hL : L < w.heap.size)
    (c0 : w.cell? ⟨L, 0, none⟩ = some (.int .i64 5)) (c1 : w.cell? ⟨L, 1, none⟩ = some (.int .i64 2)) (c2 : w.cell? ⟨L, 2, none⟩ = some (.int .i64 0)) (c3 : w.cell? ⟨L, 3, none⟩ = some (.int .i64 0))
    (c4 : w.cell? ⟨L, 4, none⟩ = some (.int .i64 d1)) (c5 : w.cell? ⟨L, 5, none⟩ = some (.int .i64 a1)) (c6 : w.cell? ⟨L, 6, none⟩ = some (.int .i64 0)) (c7 : w.cell? ⟨L, 7, none⟩ = some (.int .i64 0))
    (c8 : w.cell? ⟨L, 8, none⟩ = some (.int .i64 d2)) (c9 : w.cell? ⟨L, 9, none⟩ = some (.int .i64 a2)) (c10 : w.cell? ⟨L, 10, none⟩ = some (.int .i64 0)) (c11 : w.cell? ⟨L, 11, none⟩ = some (.int .i64 0))
    (c12 : w.cell? ⟨L, 12, none⟩ = some (.int .i64 24)) (c13 : w.cell? ⟨L, 13, none⟩ = some (.int .i64 0)) (c14 : w.cell? ⟨L, 14, none⟩ = some (.int .i64 0)) (c15 : w.cell? ⟨L, 15, none⟩ = some (.int .i64 0)) :
    Calls Try.prog 5 #[.slice (some ⟨L, 0, none⟩) 4 4] w fun e w' => e = .returned (.bool true) ∧ Below w.heap.size w w' := by
  have l1 : L < w.heap.size + 1 := by omega
  have l2 : L < w.heap.size + 1 + 1 := by omega
  have l3 : L < w.heap.size + 1 + 1 + 1 := by omega
  have l4 : L < w.heap.size + 1 + 1 + 1 + 1 := by omega
  rcases h1 with rfl | rfl | rfl <;> rcases h2 with rfl | rfl
  all_goals
    go_enter Try.func5, Try.ntmps5
    go_wp2
    refine wp_loop_rounds 5 ?_
    rw [rounds_succ]
    go_wp2
    rw [rounds_succ]
    go_wp2
    rw [rounds_succ]
    go_wp2
    rw [rounds_succ]
    go_wp2
    rw [rounds_succ]
    go_wp2
    go_ret
    refine ⟨rfl, ?_⟩
    go_grown

theorem check_any (L : Nat) (d1 a1 d2 a2 : Int) (w : World) (h1 : d1 = 1 ∨ d1 = 3 ∨ d1 = 5) (h2 : d2 = 2 ∨ d2 = 4) (hL : w.heap[L]? = some (prog4 d1 a1 d2 a2)) :
    Calls Try.prog 5 #[.slice (some ⟨L, 0, none⟩) 4 4] w fun e w' => e = .returned (.bool true) ∧ Below w.heap.size w w' := by
  have hc : ∀ j, w.cell? ⟨L, j, none⟩ = _ := fun j => cell_of_row w L j _ _ _ hL
  exact check_walk L d1 a1 d2 a2 w h1 h2 (lt_of_block hL) (hc 0) (hc 1) (hc 2) (hc 3) (hc 4) (hc 5) (hc 6) (hc 7) (hc 8) (hc 9) (hc 10) (hc 11) (hc 12) (hc 13) (hc 14) (hc 15)

end Go.Proofs.Ytbkbagkagnigbaa
