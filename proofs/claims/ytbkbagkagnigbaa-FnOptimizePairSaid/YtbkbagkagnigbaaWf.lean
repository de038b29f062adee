/-
  PROVED HERE: lemmas on the compiler's state for the walk of the pass as the thin package calls it; no walk.
  CONDITIONS: at each lemma.
-/
import Derived.Test.YtbkbagkagnigbaaWc
import Derived.Test.YtbkbagkagnigbaaWe
import Derived.Deep.RegionWith
namespace Go.Proofs.Ytbkbagkagnigbaa
open Go.RowKit

theorem ex_any (d a : Int) (hd : d = 1 ∨ d = 2 ∨ d = 3 ∨ d = 4 ∨ d = 5 ∨ d = 24) : ∃ t y, IsOpnd (.iface t y) ∧ ∀ w : World, Calls Try.prog 8 #[.agg #[.int .i64 d, .int .i64 a, .int .i64 0, .int .i64 0]] w fun e w' => e = .returned (.iface t y) ∧ w' = w.alloc (.cells #[.int .i64 d, .int .i64 a, .int .i64 0, .int .i64 0] 23) := by
  by_cases h : d = 5
  · subst h
    exact ⟨53, _, Or.inr ⟨a, rfl⟩, fun w => operand_load a 0 0 w⟩
  · exact ⟨3, _, Or.inl ⟨a, rfl⟩, fun w => operand_plain d a 0 0 w (by simp [h]) (by simp; omega) (by simp; omega)⟩

/-- The instructions so far: of each the kind is the list's, and the operand is a number or a pair. -/
def Sofar (d1 d2 : Int) (k : Nat) (ks : List (Nat × Value × Int)) : Prop :=
  ks.map (·.2.2) = [5, d1, d2, 24].take k ∧ ∀ x ∈ ks, IsOpnd x.2.1

theorem Sofar.len {d1 d2 : Int} {k : Nat} {ks : List (Nat × Value × Int)} (h : Sofar d1 d2 k ks) : ks.length ≤ 4 := by
  have := congrArg List.length h.1
  simp at this
  omega

theorem Sofar.next {d1 d2 d : Int} {k b : Nat} {x : Value} {ks : List (Nat × Value × Int)} (h : Sofar d1 d2 k ks) (hx : IsOpnd x) (hd : [5, d1, d2, 24][k]? = some d) : Sofar d1 d2 (k + 1) (ks ++ [(b, x, d)]) := by
  refine ⟨?_, ?_⟩
  · rw [List.map_append, h.1, List.take_add_one, hd]
    rfl
  · intro y hy
    rcases List.mem_append.1 hy with hy | hy
    · exact h.2 y hy
    · simp only [List.mem_singleton] at hy
      subst hy
      exact hx

/-- What stands at the head of a round of the first loop. -/
def Head (B C : Nat) (d1 d2 : Int) (k : Nat) (w wr : World) : Prop := Below B w wr ∧ ∃ ks, St C wr ks ∧ Sofar d1 d2 k ks

theorem head_start {d1 d2 : Int} {w w1 : World} (h : Below w.heap.size w w1) : Head w.heap.size w1.heap.size d1 d2 0 w (w1.alloc freshC) :=
  ⟨h.alloc h.size _, [], st_new w1, by simp [Sofar]⟩

/-- The four cells of the instruction at place k. -/
theorem cells4 {L k : Nat} {d1 a1 d2 a2 : Int} {w : World} (h : w.heap[L]? = some (prog4 d1 a1 d2 a2)) (hk : k < 4) : ∃ d a : Int, [5, d1, d2, 24][k]? = some d ∧
    w.cell? ⟨L, k * 4, none⟩ = some (.int .i64 d) ∧ w.cell? ⟨L, k * 4 + 1, none⟩ = some (.int .i64 a) ∧ w.cell? ⟨L, k * 4 + 2, none⟩ = some (.int .i64 0) ∧ w.cell? ⟨L, k * 4 + 3, none⟩ = some (.int .i64 0) := by
  have hc : ∀ j, w.cell? ⟨L, j, none⟩ = _ := fun j => cell_of_row w L j _ _ _ h
  obtain rfl | rfl | rfl | rfl : k = 0 ∨ k = 1 ∨ k = 2 ∨ k = 3 := by omega
  · exact ⟨5, 2, rfl, hc _, hc _, hc _, hc _⟩
  · exact ⟨d1, a1, rfl, hc _, hc _, hc _, hc _⟩
  · exact ⟨d2, a2, rfl, hc _, hc _, hc _, hc _⟩
  · exact ⟨24, 0, rfl, hc _, hc _, hc _, hc _⟩

theorem kinds {k : Nat} {d1 d2 d r : Int} (h1 : d1 = 1 ∨ d1 = 3 ∨ d1 = 5) (h2 : d2 = 2 ∧ r = 0 ∨ d2 = 4 ∧ r = 1) (hk : k < 4) (h : [5, d1, d2, 24][k]? = some d) : d = 1 ∨ d = 2 ∨ d = 3 ∨ d = 4 ∨ d = 5 ∨ d = 24 := by
  obtain rfl | rfl | rfl | rfl : k = 0 ∨ k = 1 ∨ k = 2 ∨ k = 3 := by omega
  all_goals
    simp at h
    omega

/-- What one round of the first loop does to what stands at its head. -/
theorem head_next {B C k : Nat} {d1 d2 d : Int} {w wr wx w' : World} {x : Value} {ks : List (Nat × Value × Int)} {e : Ending} (hb : Below B w wr) (hB : B ≤ C) (hs : Sofar d1 d2 k ks) (hd : [5, d1, d2, 24][k]? = some d) (hx : IsOpnd x)
    (hwx : Below wr.heap.size wr wx) (hC : C < wr.heap.size) (ha : Added C wx ks x d e w') : Head B C d1 d2 (k + 1) w w' :=
  ⟨(hb.trans (hwx.mono (by have := hb.size; omega))).trans (ha.2.2.mono hB), _, ha.2.1, hs.next hx hd⟩

/-- Behind the first loop: the four instructions by name. -/
theorem four {d1 d2 : Int} {ks : List (Nat × Value × Int)} (h : Sofar d1 d2 4 ks) : ∃ k0 k1 k2 k3 x0 x1 x2 x3, ks = [(k0, x0, 5), (k1, x1, d1), (k2, x2, d2), (k3, x3, 24)] ∧ IsOpnd x0 ∧ IsOpnd x1 ∧ IsOpnd x2 ∧ IsOpnd x3 := by
  obtain ⟨hm, hx⟩ := h
  match ks, hm, hx with
  | [(k0, x0, o0), (k1, x1, o1), (k2, x2, o2), (k3, x3, o3)], hm, hx =>
    simp only [List.map_cons, List.map_nil, List.take_succ_cons, List.take_zero, List.cons.injEq, and_true] at hm
    obtain ⟨rfl, rfl, rfl, rfl⟩ := hm
    exact ⟨k0, k1, k2, k3, x0, x1, x2, x3, rfl, hx (k0, x0, 5) (by simp), hx (k1, x1, _) (List.mem_cons_of_mem _ List.mem_cons_self), hx (k2, x2, _) (List.mem_cons_of_mem _ (List.mem_cons_of_mem _ List.mem_cons_self)), hx (k3, x3, 24) (by simp)⟩
  | [], hm, _ => simp at hm
  | [_], hm, _ => simp at hm
  | [_, _], hm, _ => simp at hm
  | [_, _, _], hm, _ => simp at hm
  | _ :: _ :: _ :: _ :: _ :: _, hm, _ => simp at hm

/-- A store into a row of plain data that is no part of the compiler. -/
theorem St.other {C M j : Nat} {w : World} {ks : List (Nat × Value × Int)} {cs : Array Value} (h : St C w ks) (hM : w.heap[M]? = some (.cells cs 23 (0, 0))) (hlt : C < M) (u : Value) : St C (w.setCell ⟨M, j, none⟩ u) ks := by
  obtain ⟨v, hv, hf, ho⟩ := h.comp
  refine ⟨⟨v, ?_, (World.frozen?_setCell _ _ _ _).trans hf, ownsRow_of_heap ho fun q hq => ?_⟩, ?_, h.rising⟩
  · rw [World.cell?_setCell_other _ _ _ _ (by intro e; have := congrArg Addr.block e; simp at this; omega)]
    exact hv
  · refine Below.heap_setCell _ _ _ _ ?_
    rintro rfl
    rcases ho.2 with ⟨rfl, _⟩ | ⟨g, cap, cur, rfl, _, hg, _⟩
    · simp [Value.ownBlock] at hq
    · simp only [Value.ownBlock, Option.some.injEq] at hq
      rw [hq, hM] at hg
      simp at hg
  · intro k hk
    have hc := h.codes k hk
    refine ⟨hc.1, ?_⟩
    rw [Below.heap_setCell _ _ _ _ ?_]
    · exact hc.2
    · rintro e
      have := hc.2
      rw [e, hM] at this
      simp at this

end Go.Proofs.Ytbkbagkagnigbaa
