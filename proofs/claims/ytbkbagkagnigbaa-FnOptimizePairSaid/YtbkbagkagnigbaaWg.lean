/-
  PROVED HERE: the thin package's pass over a list of four instructions hands back four instructions of the kinds 5, 0, r, 24, and leaves what was there.
  CONDITIONS: the kinds are 5; 1, 3 or 5; 2 (then r is 0) or 4 (then r is 1); 24.
-/
import Derived.Test.YtbkbagkagnigbaaWf
namespace Go.Proofs.Ytbkbagkagnigbaa
open Go.RowKit

theorem at_any (C k : Nat) (ks : List (Nat × Value × Int)) (b : Nat) (t : TypeId) (y : Value) (o : Int) (w : World) (h : St C w ks) (hk : ks[k]? = some (b, .iface t y, o)) :
    Calls Try.prog 12 #[.pointer (some ⟨C, 0, none⟩), .int .i64 k] w fun e w' => e = .returned (.tuple #[.int .i64 o, .iface t y]) ∧ ∃ m, w' = w.drewN m := by
  obtain ⟨hlt, hget⟩ := List.getElem?_eq_some_iff.1 hk
  obtain ⟨g, cap, hC, hg, _⟩ := h.row (by rintro rfl; simp at hlt)
  have hc := h.cellOp (b := b) (x := .iface t y) (o := o) (hget ▸ List.getElem_mem hlt)
  have h0 := hg k hlt
  rw [hget] at h0
  exact at_walk C g cap b k ks.length o t y w hlt hC h0 hc.1 hc.2.1

/-- The kinds behind the pass. -/
abbrev outs (r : Int) : List Int := [5, 0, r, 24]

/-- What stands at the head of a round of the second loop. -/
def Tail (B C M : Nat) (r : Int) (ks : List (Nat × Value × Int)) (k : Nat) (w wr : World) : Prop :=
  Below B w wr ∧ St C wr ks ∧ ∃ cs, wr.heap[M]? = some (.cells cs 23 (0, 0)) ∧ cs.size = 16 ∧ ∀ j, j < k → cs[4 * j]? = ((outs r)[j]?).map (Value.int .i64)

theorem tail_next {B C M k : Nat} {r o x : Int} {ks : List (Nat × Value × Int)} {cs : Array Value} {w wr wx : World} (hb : Below B w wr) (hs : St C wr ks) (hM : wr.heap[M]? = some (.cells cs 23 (0, 0))) (hsz : cs.size = 16) (hcs : ∀ j, j < k → cs[4 * j]? = ((outs r)[j]?).map (Value.int .i64))
    (hk : k < 4) (ho : (outs r)[k]? = some o) (hB : B ≤ M) (hC : C < M) (hx : Below wr.heap.size wr wx) :
    Tail B C M r ks (k + 1) w ((((wx.setCell ⟨M, k * 4, none⟩ (.int .i64 o)).setCell ⟨M, k * 4 + 1, none⟩ (.int .i64 x)).setCell ⟨M, k * 4 + 2, none⟩ (.int .i64 0)).setCell ⟨M, k * 4 + 3, none⟩ (.int .i64 0)) := by
  have hMl : M < wr.heap.size := lt_of_block hM
  have m0 : wx.heap[M]? = some (.cells cs 23 (0, 0)) := (hx.block M hMl).trans hM
  have m1 := heap_setCell_same wx M (k * 4) cs 23 (.int .i64 o) m0
  have m2 := heap_setCell_same _ M (k * 4 + 1) _ 23 (.int .i64 x) m1
  have m3 := heap_setCell_same _ M (k * 4 + 2) _ 23 (.int .i64 0) m2
  have m4 := heap_setCell_same _ M (k * 4 + 3) _ 23 (.int .i64 0) m3
  refine ⟨?_, ?_, _, m4, by simpa using hsz, ?_⟩
  · exact (((((hb.trans (hx.mono (by have := hb.size; omega))).setCell hB _).setCell hB _).setCell hB _).setCell hB _)
  · exact St.other (St.other (St.other (St.other (hs.below hx) m0 hC _) m1 hC _) m2 hC _) m3 hC _
  · intro j hj
    rw [Array.getElem?_setIfInBounds_ne (by omega), Array.getElem?_setIfInBounds_ne (by omega), Array.getElem?_setIfInBounds_ne (by omega)]
    by_cases e : j = k
    · subst e
      rw [show 4 * j = j * 4 by omega, Array.getElem?_setIfInBounds_self_of_lt (by omega), ho]
      rfl
    · rw [Array.getElem?_setIfInBounds_ne (by omega)]
      exact hcs j (by omega)

/-- What the pass leaves: a list of four instructions of these kinds. -/
def Done (r : Int) (w : World) (e : Ending) (w' : World) : Prop :=
  (∃ M, e = .returned (.slice (some ⟨M, 0, none⟩) 4 4) ∧ ∀ j, j < 4 → w'.cell? ⟨M, j * 4, none⟩ = ((outs r)[j]?).map (Value.int .i64)) ∧ Below w.heap.size w w'

theorem done_of {B C M : Nat} {r : Int} {ks : List (Nat × Value × Int)} {w w' : World} (h : Tail B C M r ks 4 w w') : ∀ j, j < 4 → w'.cell? ⟨M, j * 4, none⟩ = ((outs r)[j]?).map (Value.int .i64) := by
  obtain ⟨_, _, cs, hM, _, hj⟩ := h
  intro j hlt
  rw [cell_of_row w' M (j * 4) _ _ _ hM, Nat.mul_comm]
  exact hj j hlt

theorem places {r : Int} {k0 k1 k2 k3 : Nat} {x0 x1 x2 x3 : Value} (h : IsOpnd x0 ∧ IsOpnd x1 ∧ IsOpnd x2 ∧ IsOpnd x3) (k : Nat) (hk : k < 4) :
    ∃ b t y o, [(k0, x0, 5), (k1, x1, 0), (k2, x2, r), (k3, x3, 24)][k]? = some (b, .iface t y, o) ∧ (outs r)[k]? = some o ∧ IsOpnd (.iface t y) := by
  have hx : ∀ x, IsOpnd x → ∃ t y, x = .iface t y := by
    intro x hx
    rcases hx with ⟨a, rfl⟩ | ⟨a, rfl⟩
    · exact ⟨_, _, rfl⟩
    · exact ⟨_, _, rfl⟩
  obtain ⟨h0, h1, h2, h3⟩ := h
  obtain ⟨t0, y0, rfl⟩ := hx x0 h0
  obtain ⟨t1, y1, rfl⟩ := hx x1 h1
  obtain ⟨t2, y2, rfl⟩ := hx x2 h2
  obtain ⟨t3, y3, rfl⟩ := hx x3 h3
  obtain rfl | rfl | rfl | rfl : k = 0 ∨ k = 1 ∨ k = 2 ∨ k = 3 := by omega
  · exact ⟨_, _, _, _, rfl, rfl, h0⟩
  · exact ⟨_, _, _, _, rfl, rfl, h1⟩
  · exact ⟨_, _, _, _, rfl, rfl, h2⟩
  · exact ⟨_, _, _, _, rfl, rfl, h3⟩

theorem tail_start {B C : Nat} {r : Int} {ks : List (Nat × Value × Int)} {w w2 : World} {cs : Array Value} (hb : Below B w w2) (hs : St C w2 ks) (hB : B ≤ w2.heap.size) (hsz : cs.size = 16) : Tail B C w2.heap.size r ks 0 w (w2.alloc (.cells cs 23)) :=
  ⟨hb.alloc hB _, hs.below ((Below.refl _ _).alloc (Nat.le_refl _) _), cs, heap_alloc_new w2 _, hsz, fun j hj => by omega⟩

theorem row4 {M k m : Nat} {wr w4 : World} {cs : Array Value} (hb : Below (wr.drewN m).heap.size (wr.drewN m) w4) (hM : wr.heap[M]? = some (.cells cs 23 (0, 0))) (hsz : cs.size = 16) (hk : k < 4) :
    Below wr.heap.size wr w4 ∧ (∃ u, w4.cell? ⟨M, k * 4, none⟩ = some u) ∧ (∃ u, w4.cell? ⟨M, k * 4 + 1, none⟩ = some u) ∧ (∃ u, w4.cell? ⟨M, k * 4 + 2, none⟩ = some u) ∧ (∃ u, w4.cell? ⟨M, k * 4 + 3, none⟩ = some u) ∧ ∀ j, w4.frozen? ⟨M, j, none⟩ = false := by
  have hb' : Below wr.heap.size wr w4 := ⟨hb.os, hb.tape, hb.output, hb.size, hb.block⟩
  have m0 : w4.heap[M]? = some (.cells cs 23 (0, 0)) := (hb'.block M (lt_of_block hM)).trans hM
  have hc : ∀ j, j < 16 → ∃ u, w4.cell? ⟨M, j, none⟩ = some u := fun j hj => ⟨cs[j]'(by omega), by rw [cell_of_row w4 M j _ _ _ m0]; exact Array.getElem?_eq_getElem (by omega)⟩
  exact ⟨hb', hc _ (by omega), hc _ (by omega), hc _ (by omega), hc _ (by omega), fun j => frozen_of_row w4 M j _ _ m0⟩

theorem zeros16 (w : World) : (Instr.makeSlice 24 (.int .i64 4) (.int .i64 4)).run Try.prog w = .ok (.slice (some ⟨w.heap.size, 0, none⟩) 4 4) (w.alloc (.cells #[.int .i64 0, .int .i64 0, .int .i64 0, .int .i64 0, .int .i64 0, .int .i64 0, .int .i64 0, .int .i64 0, .int .i64 0, .int .i64 0, .int .i64 0, .int .i64 0, .int .i64 0, .int .i64 0, .int .i64 0, .int .i64 0] 23)) := by kernel_rfl

set_option maxHeartbeats 1600000 in
set_option maxRecDepth 100000 in
theorem optimize_walk (L : Nat) (d1 a1 d2 a2 r : Int) (w : World) (h1 : d1 = 1 ∨ d1 = 3 ∨ d1 = 5) (h2 : d2 = 2 ∧ r = 0 ∨ d2 = 4 ∧ r = 1) (hL : w.heap[L]? = some (prog4 d1 a1 d2 a2)) :
    Calls Try.prog 4 #[.slice (some ⟨L, 0, none⟩) 4 4, .bool false] w (Done r w) := by
  have HK := hidden (check_any L d1 a1 d2 a2 w h1 (by omega) hL)
  have HL := hidden hL
  have H1 := hidden h1
  have H2 := hidden h2
  clear hL h1 h2
  go_enter Try.func4, Try.ntmps4
  go_wp2_with (first
    | (go_at_call 5; refine HK.out.mono ?_; rintro e w1 ⟨rfl, hb1⟩; have HB := hidden hb1; clear hb1)
    | (go_at_call 6; refine (new_any _).mono ?_; rintro e w2 ⟨rfl, rfl⟩))
  go_loopw [16] (fun i wr => ∃ k : Nat, k ≤ 4 ∧ i = .int .i64 k ∧ Head w.heap.size w1.heap.size d1 d2 k w wr) (fun i _ => 4 - (intOf i).toNat)
  case atStart => exact ⟨0, by omega, rfl, head_start HB.out⟩
  case round =>
    obtain ⟨k, hk, rfl, hh⟩ := hrel
    obtain ⟨hbr, ks, hst, hso⟩ := hh
    by_cases hlt : k < 4
    · have hLr : wr.heap[L]? = some (prog4 d1 a1 d2 a2) := (hbr.block L (lt_of_block HL.out)).trans HL.out
      obtain ⟨d, a, hd, c0, c1, c2, c3⟩ := cells4 hLr hlt
      obtain ⟨t, y, hy, hop⟩ := ex_any d a (kinds H1.out H2.out hlt hd)
      have HS := hidden hst
      have HO := hidden hso
      have HR := hidden hbr
      have HY := hidden hy
      have HD := hidden hd
      have HP := hidden hop
      clear hst hso hbr hy hd hop hLr
      go_wp2
      go_region_with (first
        | (go_at_call 8; refine (HP.out _).mono ?_; rintro e w2 ⟨rfl, rfl⟩)
        | (go_at_call 7; refine (add_any _ _ ks _ _ _ (HS.out.below (by go_grown)) (by have := HO.out.len; omega)).mono ?_; rintro e w2 ha; obtain rfl := ha.1; have HA := hidden ha; clear ha))
      all_goals
        go_wp2
        go_roundw
        case rel => exact ⟨k + 1, by omega, by go_num, head_next HR.out HB.out.size HO.out HD.out HY.out (by go_grown) HS.out.size HA.out⟩
        case measure => simp [intOf]; omega
    · obtain rfl : k = 4 := by omega
      obtain ⟨k0, k1, k2, k3, x0, x1, x2, x3, rfl, y0, y1, y2, y3⟩ := four hso
      have HS := hidden hst
      have HR := hidden hbr
      have HY := hidden (And.intro y0 (And.intro y1 (And.intro y2 y3)))
      have HZ := zeros16
      clear hst hso hbr y0 y1 y2 y3
      go_wp2_with (first
        | (go_at_call 10; refine (optimize_any _ k0 k1 k2 k3 x0 x1 x2 x3 d1 d2 r _ H1.out H2.out HS.out).mono ?_; rintro e w2 ⟨rfl, hs2, hb2⟩; have HS2 := hidden hs2; have HB2 := hidden hb2; clear hs2 hb2))
      have HW := hidden (HR.out.trans (HB2.out.mono HB.out.size))
      have HC := hidden HS2.out.size
      have HM := hidden (Nat.le_trans HB.out.size (Nat.le_of_lt HC.out))
      clear HR HS HB2
      go_loopw [37] (fun i wq => ∃ k : Nat, k ≤ 4 ∧ i = .int .i64 k ∧ Tail w.heap.size w1.heap.size w2.heap.size r [(k0, x0, 5), (k1, x1, 0), (k2, x2, r), (k3, x3, 24)] k w wq) (fun i _ => 4 - (intOf i).toNat)
      case atStart => exact ⟨0, by omega, rfl, tail_start HW.out HS2.out HM.out rfl⟩
      case round =>
        obtain ⟨k, hk, rfl, hh⟩ := hrel
        obtain ⟨hb, hs, cs, hM, hsz, hcs⟩ := hh
        have I1 := hidden hb
        have I2 := hidden hs
        have I3 := hidden hM
        have I4 := hidden hsz
        have I5 := hidden hcs
        clear hb hs hM hsz hcs hlt
        by_cases hlt : k < 4
        · obtain ⟨b, t, y, o, hk1, ho, hy⟩ := places (r := r) (k0 := k0) (k1 := k1) (k2 := k2) (k3 := k3) HY.out k hlt
          have J1 := hidden hk1
          have J2 := hidden ho
          have J3 := hidden hy
          clear hk1 ho hy HZ
          go_wp2_with (first
            | (go_at_call 12; refine (at_any _ k _ b t y o _ I2.out J1.out).mono ?_; rintro e w3 ⟨rfl, m, rfl⟩)
            | (go_at_call 11; refine (step_any o _ _ J3.out).mono ?_; rintro e w4 ⟨⟨x, rfl⟩, hb4⟩; obtain ⟨hb5, ⟨u0, q0⟩, ⟨u1, q1⟩, ⟨u2, q2⟩, ⟨u3, q3⟩, qf⟩ := row4 hb4 I3.out I4.out hlt; clear hb4; have HB5 := hidden hb5; clear hb5))
          go_roundw
          case rel => exact ⟨k + 1, by omega, by go_num, tail_next I1.out I2.out I3.out I4.out I5.out hlt J2.out HM.out HC.out HB5.out⟩
          case measure => simp [intOf]; omega
        · obtain rfl : k = 4 := by omega
          go_wp2
          go_ret
          exact ⟨⟨_, rfl, done_of ⟨I1.out, I2.out, _, I3.out, I4.out, I5.out⟩⟩, I1.out⟩

end Go.Proofs.Ytbkbagkagnigbaa
