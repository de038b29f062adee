/-
  PROVED HERE: the append of one instruction to a compiler's list leaves that list with the instruction at its end, and all blocks before the compiler as they were.
  CONDITIONS: the compiler and its instructions are blocks of the call's own; at most 100 instructions; the operand is an interface value that is not nil.
-/
import Derived.Test.YtbkbagkagnigbaaWa
namespace Go.Proofs.Ytbkbagkagnigbaa
open Go.RowKit

/-- The pointers to the blocks of the instructions. -/
abbrev ptrs (ks : List (Nat × Value × Int)) : List Value := ks.map fun k => .pointer (some ⟨k.1, 0, none⟩)

abbrev codeObj (x : Value) (op : Int) : Obj := .cells #[x, .int .i64 op] 52 (0, 0)

/-- Block C is a compiler whose list of instructions is ks: of each its block, its operand and its kind. -/
structure St (C : Nat) (w : World) (ks : List (Nat × Value × Int)) : Prop where
  comp : ∃ v, w.cell? ⟨C, 5, none⟩ = some v ∧ w.frozen? ⟨C, 5, none⟩ = false ∧ w.ownsRow (C + 1) 49 1 v ks.length (ptrs ks)
  codes : ∀ k ∈ ks, C < k.1 ∧ w.heap[k.1]? = some (codeObj k.2.1 k.2.2)
  rising : (ks.map (·.1)).Pairwise (· < ·)

theorem St.size {C : Nat} {w : World} {ks : List (Nat × Value × Int)} (h : St C w ks) : C < w.heap.size := by
  obtain ⟨v, hv, _⟩ := h.comp
  exact World.block_lt_of_cell? w _ hv

theorem St.lt {C : Nat} {w : World} {ks : List (Nat × Value × Int)} (h : St C w ks) : ∀ k ∈ ks, k.1 < w.heap.size := fun k hk =>
  (Array.getElem?_eq_some_iff.1 (h.codes k hk).2).1

theorem ownsRow_of_heap {w w' : World} {base size n : Nat} {e : TypeId} {v : Value} {xs : List Value} (h : w.ownsRow base e size v n xs) (hh : ∀ q, v.ownBlock = some q → w'.heap[q]? = w.heap[q]?) : w'.ownsRow base e size v n xs := by
  refine ⟨h.1, ?_⟩
  rcases h.2 with h2 | ⟨g, cap, cur, rfl, hb, hg, r⟩
  · exact Or.inl h2
  · exact Or.inr ⟨g, cap, cur, rfl, hb, (hh g rfl).trans hg, r⟩

/-- What leaves all blocks alone leaves the state. -/
theorem St.below {C : Nat} {w w' : World} {ks : List (Nat × Value × Int)} (h : St C w ks) (hb : Below w.heap.size w w') : St C w' ks := by
  obtain ⟨v, hv, hf, ho⟩ := h.comp
  refine ⟨⟨v, (hb.cell h.size).trans hv, (hb.frozen h.size).trans hf, ownsRow_of_heap ho fun q hq => hb.block q (ho.lt q hq).2⟩, fun k hk => ⟨(h.codes k hk).1, (hb.block _ (h.lt k hk)).trans (h.codes k hk).2⟩, h.rising⟩

theorem st_new (w : World) : St w.heap.size (w.alloc freshC) [] :=
  ⟨⟨.slice none 0 0, by rw [World.cell?_alloc_at _ _ _ _ rfl]; rfl, World.frozen?_alloc_at _ _ _ _ rfl, World.ownsRow_nil _ _ _ _⟩, by simp, by simp⟩

/-- The block of a row is none of an instruction. -/
theorem row_ne {w : World} {base n q k : Nat} {v x : Value} {op : Int} {xs : List Value} (h : w.ownsRow base 49 1 v n xs) (hq : v.ownBlock = some q) (hk : w.heap[k]? = some (codeObj x op)) : k ≠ q := by
  rintro rfl
  rcases h.2 with ⟨rfl, _⟩ | ⟨g, cap, cur, rfl, _, hg, _⟩
  · simp [Value.ownBlock] at hq
  · simp only [Value.ownBlock, Option.some.injEq] at hq
    rw [hq, hk] at hg
    simp at hg

theorem st_appended {C : Nat} {w w' : World} {v : Value} {x : Value} {op : Int} {ks : List (Nat × Value × Int)} {e : Ending} (h : St C w ks)
    (hv : w.cell? ⟨C, 5, none⟩ = some v) (hf : w.frozen? ⟨C, 5, none⟩ = false) (ho : w.ownsRow (C + 1) 49 1 v ks.length (ptrs ks))
    (ha : Appended C w.heap.size (w.alloc (codeObj x op)) v ks.length (ptrs ks) e w') : e = .returned (.tuple #[]) ∧ St C w' (ks ++ [(w.heap.size, x, op)]) ∧ Below C w w' := by
  obtain ⟨he, v', w1, ho1, hg, rfl⟩ := ha
  have hs : C < w.heap.size := h.size
  have hlt : ∀ q, v.ownBlock = some q → C + 1 ≤ q ∧ q < w.heap.size := ho.lt
  have hold : ∀ q, q < w.heap.size → some q ≠ v.ownBlock → w1.heap[q]? = w.heap[q]? := fun q hq hne =>
    (hg.block q (by simp; omega) hne).trans ((Below.heap_alloc _ _ q (by simp; omega)).trans (Below.heap_alloc _ _ q hq))
  have hneC : some C ≠ v.ownBlock := fun hh => by have := (hlt C hh.symm).1; omega
  have hC1 : w1.cell? ⟨C, 5, none⟩ = some v := (World.cell?_of_block (w := w) (hold C hs hneC)).trans hv
  have hf1 : w1.frozen? ⟨C, 5, none⟩ = false := (World.frozen?_of_block (w := w) (hold C hs hneC)).trans hf
  have hnew : w1.heap[w.heap.size]? = some (codeObj x op) :=
    (hg.block w.heap.size (by simp; omega) (fun hh => by have := (hlt _ hh.symm).2; omega)).trans ((Below.heap_alloc _ _ _ (by simp)).trans (heap_alloc_new w _))
  refine ⟨he, ⟨⟨v', World.cell?_setCell_same _ _ _ hC1, (World.frozen?_setCell _ _ _ _).trans hf1, ?_⟩, ?_, ?_⟩, ?_⟩
  · refine ownsRow_setCell_below (base := C + 1) ?_ (by simp) _
    simpa [ptrs] using ho1
  · intro k hk
    rw [List.mem_append] at hk
    rcases hk with hk | hk
    · have hc := h.codes k hk
      have hl := h.lt k hk
      refine ⟨hc.1, ?_⟩
      rw [Below.heap_setCell _ _ _ _ (by have := hc.1; show k.1 ≠ C; omega), hold k.1 hl (fun hh => row_ne ho hh.symm hc.2 rfl)]
      exact hc.2
    · simp only [List.mem_singleton] at hk
      subst hk
      refine ⟨hs, ?_⟩
      rw [Below.heap_setCell _ _ _ _ (by show w.heap.size ≠ C; omega)]
      exact hnew
  · rw [List.map_append, List.pairwise_append]
    refine ⟨h.rising, by simp, ?_⟩
    intro a ha b hb
    obtain ⟨k, hk, rfl⟩ := List.mem_map.1 ha
    simp only [List.map_cons, List.map_nil, List.mem_singleton] at hb
    subst hb
    exact h.lt k hk
  · refine Below.setCell ?_ (Nat.le_refl C) _
    refine ((((Below.refl C w).alloc (by omega) _).alloc (by simp; omega) _).grown hg (by simp; omega) fun q hq => ?_)
    have := (hlt q hq).1
    omega

/-- What is left behind the append of one instruction. -/
def Added (C : Nat) (w : World) (ks : List (Nat × Value × Int)) (x : Value) (op : Int) (e : Ending) (w' : World) : Prop :=
  e = .returned (.tuple #[]) ∧ St C w' (ks ++ [(w.heap.size, x, op)]) ∧ Below C w w'

theorem add_any (C : Nat) (w : World) (ks : List (Nat × Value × Int)) (t : TypeId) (x : Value) (op : Int) (h : St C w ks) (hn : ks.length ≤ 100) :
    Calls Try.prog 7 #[.pointer (some ⟨C, 0, none⟩), .int .i64 op, .iface t x] w (Added C w ks (.iface t x) op) := by
  obtain ⟨v, hv, hf, ho⟩ := h.comp
  have hs := h.size
  have hv1 : (w.alloc (codeObj (.iface t x) op)).cell? ⟨C, 5, none⟩ = some v := (World.cell?_of_block (w := w) (Below.heap_alloc _ _ C hs)).trans hv
  have hf1 : (w.alloc (codeObj (.iface t x) op)).frozen? ⟨C, 5, none⟩ = false := (World.frozen?_of_block (w := w) (Below.heap_alloc _ _ C hs)).trans hf
  have HA := hidden ((append_any C w.heap.size (w.alloc (codeObj (.iface t x) op)) v ks.length (ptrs ks) hv1 hf1 (ho.alloc _) hn (by simp; omega) |>.mono (R' := Added C w ks (.iface t x) op) fun e w' ha => st_appended (x := .iface t x) (op := op) h hv hf ho ha))
  clear hv hf ho hv1 hf1 h
  go_enter Try.func7, Try.ntmps7
  go_wp2_with (first
    | (go_at_call 13; refine HA.out.mono ?_; rintro e w' ⟨rfl, hst, hbl⟩))
  go_end0
  exact ⟨rfl, hst, hbl⟩

end Go.Proofs.Ytbkbagkagnigbaa
