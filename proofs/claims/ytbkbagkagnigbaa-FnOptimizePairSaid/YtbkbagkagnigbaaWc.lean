/-
  PROVED HERE: the pass over instructions, at a list of four, turns the second into a nop and the third into a nop or a push.
  CONDITIONS: the kinds are 5; 1, 3 or 5; 2 or 4; 24.
-/
import Derived.Test.YtbkbagkagnigbaaWb
import Derived.LoopN
namespace Go.Proofs.Ytbkbagkagnigbaa
open Go.RowKit

set_option maxHeartbeats 1600000 in
set_option maxRecDepth 100000 in
theorem ops_walk (C g cap k0 k1 k2 k3 : Nat) (o1 o2 r : Int) (w : World) (h1 : o1 = 1 ∨ o1 = 3 ∨ o1 = 5) (h2 : o2 = 2 ∧ r = 0 ∨ o2 = 4 ∧ r = 1)
    (hC : w.cell? ⟨C, 5, none⟩ = some (.slice (some ⟨g, 0, none⟩) 4 cap))
    (g0 : w.cell? ⟨g, 0, none⟩ = some (.pointer (some ⟨k0, 0, none⟩))) (g1 : w.cell? ⟨g, 1, none⟩ = some (.pointer (some ⟨k1, 0, none⟩)))
    (g2 : w.cell? ⟨g, 2, none⟩ = some (.pointer (some ⟨k2, 0, none⟩))) (g3 : w.cell? ⟨g, 3, none⟩ = some (.pointer (some ⟨k3, 0, none⟩)))
    (c0 : w.cell? ⟨k0, 1, none⟩ = some (.int .i64 5)) (c1 : w.cell? ⟨k1, 1, none⟩ = some (.int .i64 o1))
    (c2 : w.cell? ⟨k2, 1, none⟩ = some (.int .i64 o2)) (c3 : w.cell? ⟨k3, 1, none⟩ = some (.int .i64 24))
    (f1 : w.frozen? ⟨k1, 1, none⟩ = false) (f2 : w.frozen? ⟨k2, 1, none⟩ = false)
    (n1 : k1 ≠ g) (n2 : k2 ≠ g) (n3 : k0 ≠ k1) (n4 : k0 ≠ k2) (n5 : k1 ≠ k2) :
    Calls Try.prog 15 #[.pointer (some ⟨C, 0, none⟩)] w fun e w' => e = .returned (.tuple #[]) ∧ w' = (w.setCell ⟨k1, 1, none⟩ (.int .i64 0)).setCell ⟨k2, 1, none⟩ (.int .i64 r) := by
  have m1 : g ≠ k1 := n1.symm
  have m2 : g ≠ k2 := n2.symm
  have m3 : k1 ≠ k0 := n3.symm
  have m4 : k2 ≠ k0 := n4.symm
  have m5 : k2 ≠ k1 := n5.symm
  rcases h1 with rfl | rfl | rfl <;> rcases h2 with ⟨rfl, rfl⟩ | ⟨rfl, rfl⟩
  all_goals
    go_enter Try.func15, Try.ntmps15
    go_wp2
    refine wp_loop_rounds 5 ?_
    rw [rounds_succ]
    go_wp2
    rw [rounds_succ]
    go_wp2
    rw [rounds_succ]
    go_wp2
    rw [rounds_succ]
    go_wp2
    rw [rounds_succ]
    go_wp2
    go_end0
    exact ⟨rfl, rfl⟩

theorem setCell_code {w : World} {b : Nat} {x : Value} {o r : Int} (h : w.heap[b]? = some (codeObj x o)) : (w.setCell ⟨b, 1, none⟩ (.int .i64 r)).heap[b]? = some (codeObj x r) := by
  rw [heap_setCell_same w b 1 _ _ _ h]
  rfl

/-- A store into the kind of one instruction. -/
theorem St.stored {C : Nat} {w : World} {pre post : List (Nat × Value × Int)} {b : Nat} {x : Value} {o : Int} (h : St C w (pre ++ (b, x, o) :: post)) (r : Int) :
    St C (w.setCell ⟨b, 1, none⟩ (.int .i64 r)) (pre ++ (b, x, r) :: post) := by
  obtain ⟨v, hv, hf, ho⟩ := h.comp
  have hb := h.codes (b, x, o) (by simp)
  have hr := h.rising
  simp only [List.map_append, List.map_cons] at hr
  have hne : ∀ k ∈ pre ++ post, k.1 ≠ b := by
    intro k hk
    rw [List.pairwise_append] at hr
    rcases List.mem_append.1 hk with hk | hk
    · have := hr.2.2 k.1 (List.mem_map.2 ⟨k, hk, rfl⟩) b (by simp)
      omega
    · have := (List.pairwise_cons.1 hr.2.1).1 k.1 (List.mem_map.2 ⟨k, hk, rfl⟩)
      omega
  refine ⟨⟨v, ?_, (World.frozen?_setCell _ _ _ _).trans hf, ?_⟩, ?_, ?_⟩
  · rw [World.cell?_setCell_other _ _ _ _ (by simp)]
    exact hv
  · have := ownsRow_setCell_other ho (a := ⟨b, 1, none⟩) (fun hh => row_ne ho hh hb.2 rfl) (.int .i64 r)
    simpa [ptrs] using this
  · intro k hk
    by_cases e : k = (b, x, r)
    · subst e
      exact ⟨hb.1, setCell_code hb.2⟩
    · have hk' : k ∈ pre ++ post := by
        simp only [List.mem_append, List.mem_cons] at hk ⊢
        rcases hk with hk | hk | hk
        · exact Or.inl hk
        · exact absurd hk e
        · exact Or.inr hk
      have hc := h.codes k (by simp only [List.mem_append, List.mem_cons] at hk' ⊢; rcases hk' with hk' | hk' <;> simp [hk'])
      refine ⟨hc.1, ?_⟩
      rw [Below.heap_setCell _ _ _ _ (hne k hk')]
      exact hc.2
  · simpa only [List.map_append, List.map_cons] using h.rising

theorem St.cellOp {C : Nat} {w : World} {ks : List (Nat × Value × Int)} (h : St C w ks) {b : Nat} {x : Value} {o : Int} (hk : (b, x, o) ∈ ks) : w.cell? ⟨b, 1, none⟩ = some (.int .i64 o) ∧ w.cell? ⟨b, 0, none⟩ = some x ∧ w.frozen? ⟨b, 1, none⟩ = false := by
  have hc := (h.codes _ hk).2
  exact ⟨cell_of_row w b 1 _ _ _ hc, cell_of_row w b 0 _ _ _ hc, frozen_of_row w b 1 _ _ hc⟩

/-- The list's own cells: where it lies and what it holds. -/
theorem St.row {C : Nat} {w : World} {ks : List (Nat × Value × Int)} (h : St C w ks) (hn : ks ≠ []) : ∃ g cap, w.cell? ⟨C, 5, none⟩ = some (.slice (some ⟨g, 0, none⟩) ks.length cap) ∧ (∀ j (hj : j < ks.length), w.cell? ⟨g, j, none⟩ = some (.pointer (some ⟨ks[j].1, 0, none⟩))) ∧ (∀ k ∈ ks, k.1 ≠ g) := by
  obtain ⟨v, hv, _, ho⟩ := h.comp
  obtain ⟨n, hl⟩ : ∃ n, ks.length = n + 1 := ⟨ks.length - 1, by have := List.length_pos_iff.2 hn; omega⟩
  have ho' := ho
  rw [hl] at ho'
  obtain ⟨g, cap, rfl⟩ := row_shape ho'
  rw [← hl] at ho' hv ho
  refine ⟨g, cap, hv, ?_, fun k hk => row_ne ho rfl (h.codes k hk).2⟩
  intro j hj
  rw [ho.cellAt j (by omega)]
  simp [ptrs, hj]

/-- The pass at a list of four instructions. -/
theorem ops_any (C k0 k1 k2 k3 : Nat) (x0 x1 x2 x3 : Value) (o1 o2 r : Int) (w : World) (h1 : o1 = 1 ∨ o1 = 3 ∨ o1 = 5) (h2 : o2 = 2 ∧ r = 0 ∨ o2 = 4 ∧ r = 1)
    (h : St C w [(k0, x0, 5), (k1, x1, o1), (k2, x2, o2), (k3, x3, 24)]) :
    Calls Try.prog 15 #[.pointer (some ⟨C, 0, none⟩)] w fun e w' => e = .returned (.tuple #[]) ∧ St C w' [(k0, x0, 5), (k1, x1, 0), (k2, x2, r), (k3, x3, 24)] ∧ Below C w w' := by
  obtain ⟨g, cap, hC, hg, hn⟩ := h.row (by simp)
  have hp := h.rising
  simp only [List.map_cons, List.map_nil, List.pairwise_cons, List.mem_cons, List.not_mem_nil, or_false, forall_eq_or_imp, forall_eq] at hp
  have a1 := h.cellOp (b := k1) (x := x1) (o := o1) (by simp)
  have a2 := h.cellOp (b := k2) (x := x2) (o := o2) (by simp)
  refine (ops_walk C g cap k0 k1 k2 k3 o1 o2 r w h1 h2 hC (hg 0 (by simp)) (hg 1 (by simp)) (hg 2 (by simp)) (hg 3 (by simp))
    (h.cellOp (b := k0) (x := x0) (by simp)).1 a1.1 a2.1 (h.cellOp (b := k3) (x := x3) (by simp)).1 a1.2.2 a2.2.2
    (hn (k1, x1, o1) (by simp)) (hn (k2, x2, o2) (by simp)) (by omega) (by omega) (by omega)).mono ?_
  rintro e w' ⟨rfl, rfl⟩
  have s1 : St C (w.setCell ⟨k1, 1, none⟩ (.int .i64 0)) [(k0, x0, 5), (k1, x1, 0), (k2, x2, o2), (k3, x3, 24)] := St.stored (pre := [(k0, x0, 5)]) h 0
  have s2 := St.stored (pre := [(k0, x0, 5), (k1, x1, 0)]) s1 r
  have b1 := (h.codes (k1, x1, o1) (by simp)).1
  have b2 := (h.codes (k2, x2, o2) (by simp)).1
  exact ⟨rfl, s2, ((Below.refl C w).setCell (Nat.le_of_lt b1) _).setCell (Nat.le_of_lt b2) _⟩

theorem optimize_any (C k0 k1 k2 k3 : Nat) (x0 x1 x2 x3 : Value) (o1 o2 r : Int) (w : World) (h1 : o1 = 1 ∨ o1 = 3 ∨ o1 = 5) (h2 : o2 = 2 ∧ r = 0 ∨ o2 = 4 ∧ r = 1)
    (h : St C w [(k0, x0, 5), (k1, x1, o1), (k2, x2, o2), (k3, x3, 24)]) :
    Calls Try.prog 10 #[.pointer (some ⟨C, 0, none⟩)] w fun e w' => e = .returned (.tuple #[]) ∧ St C w' [(k0, x0, 5), (k1, x1, 0), (k2, x2, r), (k3, x3, 24)] ∧ Below C w w' := by
  have H := hidden (ops_any C k0 k1 k2 k3 x0 x1 x2 x3 o1 o2 r w h1 h2 h)
  clear h1 h2 h
  go_enter Try.func10, Try.ntmps10
  go_wp2_with (first
    | (go_at_call 15; refine H.out.mono ?_; rintro e w' ⟨rfl, hs, hb⟩))
  go_end0
  exact ⟨rfl, hs, hb⟩

end Go.Proofs.Ytbkbagkagnigbaa
