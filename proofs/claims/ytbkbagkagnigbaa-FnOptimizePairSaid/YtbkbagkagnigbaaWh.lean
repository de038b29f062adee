/-
  PROVED HERE: the law's call returns true and leaves what was there, one theorem for each of its ways, at last for all.
  CONDITIONS: none.
-/
import Derived.Test.YtbkbagkagnigbaaWg
namespace Go.Proofs.Ytbkbagkagnigbaa
open Go.RowKit

/-- The block of the list that the law lays, behind the two blocks of its variables. -/
theorem laid3 (w : World) (X Y : Obj) (d1 a1 d2 a2 : Int) : (((w.alloc X).alloc Y).alloc (prog4 d1 a1 d2 a2)).heap[w.heap.size + 1 + 1]? = some (prog4 d1 a1 d2 a2) := by
  have h := heap_alloc_new ((w.alloc X).alloc Y) (prog4 d1 a1 d2 a2)
  simpa using h

theorem below3 {w w2 : World} {X Y Z : Obj} (h : Below (((w.alloc X).alloc Y).alloc Z).heap.size (((w.alloc X).alloc Y).alloc Z) w2) : Below w.heap.size w w2 :=
  ((((Below.refl w.heap.size w).alloc (Nat.le_refl _) X).alloc (by simp) Y).alloc (by simp; omega) Z).trans (h.mono (by simp; omega))

/-- What the law's call leaves: true, and what was there is as it was. -/
def Held (w : World) (e : Ending) (w' : World) : Prop := e = .returned (.bool true) ∧ Below w.heap.size w w'

set_option maxHeartbeats 1600000 in
set_option maxRecDepth 100000 in
theorem law_0_pop (s a b : Int) (w : World) (hs : (s == 1) = false) : Calls Try.prog 3 #[.int .i64 0, .int .i64 s, .int .i64 a, .int .i64 b] w (Held w) := by
  go_enter Try.func3, Try.ntmps3
  go_wp2_with (first
    | (go_at_call 4; refine (optimize_walk _ 1 a 2 0 0 _ (by decide) (by decide) (laid3 _ _ _ _ _ _ _)).mono ?_; rintro e w2 ⟨⟨M, rfl, hm⟩, hb⟩; have c0 : w2.cell? ⟨M, 0, none⟩ = some (.int .i64 5) := hm 0 (by omega); have c1 : w2.cell? ⟨M, 4, none⟩ = some (.int .i64 0) := hm 1 (by omega); have c2 : w2.cell? ⟨M, 8, none⟩ = some (.int .i64 0) := hm 2 (by omega); have c3 : w2.cell? ⟨M, 12, none⟩ = some (.int .i64 24) := hm 3 (by omega); have HB := hidden (below3 hb); clear hm hb))
  refine wp_loop_rounds 5 ?_
  rw [rounds_succ]
  go_wp2
  rw [rounds_succ]
  go_wp2
  rw [rounds_succ]
  go_wp2
  rw [rounds_succ]
  go_wp2
  rw [rounds_succ]
  go_wp2
  go_ret
  exact ⟨rfl, HB.out⟩

set_option maxHeartbeats 1600000 in
set_option maxRecDepth 100000 in
theorem law_0_const (a b : Int) (w : World) : Calls Try.prog 3 #[.int .i64 0, .int .i64 1, .int .i64 a, .int .i64 b] w (Held w) := by
  go_enter Try.func3, Try.ntmps3
  go_wp2_with (first
    | (go_at_call 4; refine (optimize_walk _ 1 a 4 b 1 _ (by decide) (by decide) (laid3 _ _ _ _ _ _ _)).mono ?_; rintro e w2 ⟨⟨M, rfl, hm⟩, hb⟩; have c0 : w2.cell? ⟨M, 0, none⟩ = some (.int .i64 5) := hm 0 (by omega); have c1 : w2.cell? ⟨M, 4, none⟩ = some (.int .i64 0) := hm 1 (by omega); have c2 : w2.cell? ⟨M, 8, none⟩ = some (.int .i64 1) := hm 2 (by omega); have c3 : w2.cell? ⟨M, 12, none⟩ = some (.int .i64 24) := hm 3 (by omega); have HB := hidden (below3 hb); clear hm hb))
  refine wp_loop_rounds 5 ?_
  rw [rounds_succ]
  go_wp2
  rw [rounds_succ]
  go_wp2
  rw [rounds_succ]
  go_wp2
  rw [rounds_succ]
  go_wp2
  rw [rounds_succ]
  go_wp2
  go_ret
  exact ⟨rfl, HB.out⟩

set_option maxHeartbeats 1600000 in
set_option maxRecDepth 100000 in
theorem law_1_pop (s a b : Int) (w : World) (hs : (s == 1) = false) : Calls Try.prog 3 #[.int .i64 1, .int .i64 s, .int .i64 a, .int .i64 b] w (Held w) := by
  go_enter Try.func3, Try.ntmps3
  go_wp2_with (first
    | (go_at_call 4; refine (optimize_walk _ 3 0 2 0 0 _ (by decide) (by decide) (laid3 _ _ _ _ _ _ _)).mono ?_; rintro e w2 ⟨⟨M, rfl, hm⟩, hb⟩; have c0 : w2.cell? ⟨M, 0, none⟩ = some (.int .i64 5) := hm 0 (by omega); have c1 : w2.cell? ⟨M, 4, none⟩ = some (.int .i64 0) := hm 1 (by omega); have c2 : w2.cell? ⟨M, 8, none⟩ = some (.int .i64 0) := hm 2 (by omega); have c3 : w2.cell? ⟨M, 12, none⟩ = some (.int .i64 24) := hm 3 (by omega); have HB := hidden (below3 hb); clear hm hb))
  refine wp_loop_rounds 5 ?_
  rw [rounds_succ]
  go_wp2
  rw [rounds_succ]
  go_wp2
  rw [rounds_succ]
  go_wp2
  rw [rounds_succ]
  go_wp2
  rw [rounds_succ]
  go_wp2
  go_ret
  exact ⟨rfl, HB.out⟩

set_option maxHeartbeats 1600000 in
set_option maxRecDepth 100000 in
theorem law_1_const (a b : Int) (w : World) : Calls Try.prog 3 #[.int .i64 1, .int .i64 1, .int .i64 a, .int .i64 b] w (Held w) := by
  go_enter Try.func3, Try.ntmps3
  go_wp2_with (first
    | (go_at_call 4; refine (optimize_walk _ 3 0 4 b 1 _ (by decide) (by decide) (laid3 _ _ _ _ _ _ _)).mono ?_; rintro e w2 ⟨⟨M, rfl, hm⟩, hb⟩; have c0 : w2.cell? ⟨M, 0, none⟩ = some (.int .i64 5) := hm 0 (by omega); have c1 : w2.cell? ⟨M, 4, none⟩ = some (.int .i64 0) := hm 1 (by omega); have c2 : w2.cell? ⟨M, 8, none⟩ = some (.int .i64 1) := hm 2 (by omega); have c3 : w2.cell? ⟨M, 12, none⟩ = some (.int .i64 24) := hm 3 (by omega); have HB := hidden (below3 hb); clear hm hb))
  refine wp_loop_rounds 5 ?_
  rw [rounds_succ]
  go_wp2
  rw [rounds_succ]
  go_wp2
  rw [rounds_succ]
  go_wp2
  rw [rounds_succ]
  go_wp2
  rw [rounds_succ]
  go_wp2
  go_ret
  exact ⟨rfl, HB.out⟩

set_option maxHeartbeats 1600000 in
set_option maxRecDepth 100000 in
theorem law_2_pop (s a b : Int) (w : World) (hs : (s == 1) = false) : Calls Try.prog 3 #[.int .i64 2, .int .i64 s, .int .i64 a, .int .i64 b] w (Held w) := by
  go_enter Try.func3, Try.ntmps3
  go_wp2_with (first
    | (go_at_call 4; refine (optimize_walk _ 5 1 2 0 0 _ (by decide) (by decide) (laid3 _ _ _ _ _ _ _)).mono ?_; rintro e w2 ⟨⟨M, rfl, hm⟩, hb⟩; have c0 : w2.cell? ⟨M, 0, none⟩ = some (.int .i64 5) := hm 0 (by omega); have c1 : w2.cell? ⟨M, 4, none⟩ = some (.int .i64 0) := hm 1 (by omega); have c2 : w2.cell? ⟨M, 8, none⟩ = some (.int .i64 0) := hm 2 (by omega); have c3 : w2.cell? ⟨M, 12, none⟩ = some (.int .i64 24) := hm 3 (by omega); have HB := hidden (below3 hb); clear hm hb))
  refine wp_loop_rounds 5 ?_
  rw [rounds_succ]
  go_wp2
  rw [rounds_succ]
  go_wp2
  rw [rounds_succ]
  go_wp2
  rw [rounds_succ]
  go_wp2
  rw [rounds_succ]
  go_wp2
  go_ret
  exact ⟨rfl, HB.out⟩

set_option maxHeartbeats 1600000 in
set_option maxRecDepth 100000 in
theorem law_2_const (a b : Int) (w : World) : Calls Try.prog 3 #[.int .i64 2, .int .i64 1, .int .i64 a, .int .i64 b] w (Held w) := by
  go_enter Try.func3, Try.ntmps3
  go_wp2_with (first
    | (go_at_call 4; refine (optimize_walk _ 5 1 4 b 1 _ (by decide) (by decide) (laid3 _ _ _ _ _ _ _)).mono ?_; rintro e w2 ⟨⟨M, rfl, hm⟩, hb⟩; have c0 : w2.cell? ⟨M, 0, none⟩ = some (.int .i64 5) := hm 0 (by omega); have c1 : w2.cell? ⟨M, 4, none⟩ = some (.int .i64 0) := hm 1 (by omega); have c2 : w2.cell? ⟨M, 8, none⟩ = some (.int .i64 1) := hm 2 (by omega); have c3 : w2.cell? ⟨M, 12, none⟩ = some (.int .i64 24) := hm 3 (by omega); have HB := hidden (below3 hb); clear hm hb))
  refine wp_loop_rounds 5 ?_
  rw [rounds_succ]
  go_wp2
  rw [rounds_succ]
  go_wp2
  rw [rounds_succ]
  go_wp2
  rw [rounds_succ]
  go_wp2
  rw [rounds_succ]
  go_wp2
  go_ret
  exact ⟨rfl, HB.out⟩

theorem law_else (f s a b : Int) (w : World) (h0 : (f == 0) = false) (h1 : (f == 1) = false) (h2 : (f == 2) = false) : Calls Try.prog 3 #[.int .i64 f, .int .i64 s, .int .i64 a, .int .i64 b] w (Held w) := by
  go_enter Try.func3, Try.ntmps3
  go_wp2
  go_ret
  refine ⟨rfl, ?_⟩
  go_grown

/-- The law's call, whatever its four numbers. -/
theorem law_walk (f s a b : Int) (w : World) : Calls Try.prog 3 #[.int .i64 f, .int .i64 s, .int .i64 a, .int .i64 b] w (Held w) := by
  by_cases h0 : f = 0
  · subst h0
    by_cases hs : s = 1
    · subst hs; exact law_0_const a b w
    · exact law_0_pop s a b w (by simp [hs])
  by_cases h1 : f = 1
  · subst h1
    by_cases hs : s = 1
    · subst hs; exact law_1_const a b w
    · exact law_1_pop s a b w (by simp [hs])
  by_cases h2 : f = 2
  · subst h2
    by_cases hs : s = 1
    · subst hs; exact law_2_const a b w
    · exact law_2_pop s a b w (by simp [hs])
  exact law_else f s a b w (by simp [h0]) (by simp [h1]) (by simp [h2])

end Go.Proofs.Ytbkbagkagnigbaa
