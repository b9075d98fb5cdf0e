import Derived.Test.YbulkahfqDoorInit
import Derived.RegionTactic
import Derived.LaidEqlPtr
import Derived.BigRegion
namespace Go.Proofs.YbulkahfqDoor
open Go.RowKit

theorem Tab.keep {w v : World} (h : Tab w) (hb : Below w.heap.size w v) : Tab v := by
  have hp := h.pos
  obtain ⟨h0, h1, h2, h3, h4, h5, h6, h7⟩ := h
  have e : ∀ i, v.cell? ⟨0, i, none⟩ = w.cell? ⟨0, i, none⟩ := fun i => hb.cell (p := ⟨0, i, none⟩) hp
  exact ⟨(e 0).trans h0, (e 1).trans h1, (e 2).trans h2, (e 3).trans h3, (e 4).trans h4, (e 5).trans h5, (e 6).trans h6, (e 7).trans h7⟩

/-- The first SHA256, block N: its cells lie there and may be written; the second, block N + 1: as it was laid. -/
structure Two (w v : World) : Prop where
  below : Below w.heap.size w v
  size : v.heap.size = w.heap.size + 2
  one : ∀ j, j < 74 → ∃ x, v.cell? ⟨w.heap.size, j, none⟩ = some x
  free : ∀ j, v.frozen? ⟨w.heap.size, j, none⟩ = false
  done : ∀ j, j < 8 → v.cell? ⟨w.heap.size + 1, j, none⟩ = some (.int .u32 (iv j))
  rest : ∀ j, 8 ≤ j → v.cell? ⟨w.heap.size + 1, j, none⟩ = zero74[j]?

theorem Two.set {w v : World} (h : Two w v) (o : Nat) (x : Value) : Two w (v.setCell ⟨w.heap.size, o, none⟩ x) := by
  refine ⟨h.below.setCell (Nat.le_refl _) _, by rw [← h.size]; simp [World.setCell], fun j hj => ?_, fun j => ?_, fun j hj => ?_, fun j hj => ?_⟩
  · obtain ⟨y, hy⟩ := h.one j hj
    by_cases e : j = o
    · subst e
      exact ⟨_, World.cell?_setCell_same v _ _ hy⟩
    · exact ⟨y, by rw [World.cell?_setCell_other _ _ _ _ (by simp)]; exact hy⟩
  · rw [World.frozen?_setCell]
    exact h.free j
  · rw [World.cell?_setCell_other _ _ _ _ (by simp)]
    exact h.done j hj
  · rw [World.cell?_setCell_other _ _ _ _ (by simp)]
    exact h.rest j hj

theorem Two.drewN {w v : World} (h : Two w v) (n : Nat) : Two w (v.drewN n) := by
  obtain ⟨a, b, c, d, e, f⟩ := h
  exact ⟨⟨a.os, a.tape, a.output, a.size, a.block⟩, b, c, d, e, f⟩
theorem Two.drew {w v : World} (h : Two w v) : Two w v.drew := h.drewN 1

theorem zero_some (j : Nat) (h8 : 8 ≤ j) (hj : j < 74) : ∃ x, zero74[j]? = some x := by
  have hs : zero74.size = 74 := by unfold zero74; simp
  exact ⟨_, Array.getElem?_eq_getElem (by omega)⟩

theorem Two.make {w v1 v2 : World} (h1 : Filled w 8 v1) (h2 : Filled v1 8 v2) : Two w v2 := by
  have s1 := h1.size
  have s2 := h2.size
  refine ⟨h1.below.trans (h2.below.mono (by omega)), by omega, fun j hj => ?_, fun j => ?_, fun j hj => ?_, fun j hj => ?_⟩
  · rw [h2.below.cell (p := ⟨w.heap.size, j, none⟩) (by simp; omega)]
    by_cases e : j < 8
    · exact ⟨_, h1.done j e⟩
    · obtain ⟨x, hx⟩ := zero_some j (by omega) hj
      exact ⟨x, (h1.rest j (by omega)).trans hx⟩
  · rw [h2.below.frozen (p := ⟨w.heap.size, j, none⟩) (by simp; omega)]
    exact h1.free j
  · have := h2.done j hj
    rwa [s1] at this
  · have := h2.rest j hj
    rwa [s1] at this

theorem info29 : (Ybad.prog.info? 29).map (fun i => decide (i.size = 0)) = some false := by kernel_rfl

set_option maxHeartbeats 400000 in
theorem fresh_walk (k : Nat) (x : Int) (b : Nat) (hk : k < 256) (hb : b < 256) (w : World) (ht : Tab w) :
    Calls Ybad.prog 4 #[.int .u8 k, .int .u32 x, .int .u8 b] w fun e w' => e = .returned (.bool true) ∧ Below w.heap.size w w' := by
  have b0 : (0 : Int) ≤ k := by omega
  have b1 : (k : Int) ≤ 255 := by omega
  have b2 : (0 : Int) ≤ b := by omega
  have b3 : (b : Int) ≤ 255 := by omega
  go_enter Ybad.func4, Ybad.ntmps4
  go_wp2_with fail
  refine (new_any w ht).mono ?_
  rintro e v1 ⟨rfl, f1⟩
  go_wp2_with fail
  refine (new_any v1 (ht.keep f1.below)).mono ?_
  rintro e v2 ⟨rfl, f2⟩
  rw [f1.size]
  have hne : (binOp .eql 22 (.pointer (some ⟨w.heap.size, 0, none⟩)) (.pointer (some ⟨w.heap.size + 1, 0, none⟩))).run Ybad.prog v2 = .ok (.bool false) v2 := by
    obtain ⟨c1, o1⟩ := f1.obj
    obtain ⟨c2, o2⟩ := f2.obj
    rw [f1.size] at o2
    rw [← f2.below.block w.heap.size (by rw [f1.size]; omega)] at o1
    obtain ⟨j, hj, hsz⟩ := Option.map_eq_some_iff.1 info29
    exact run_eql_ptr_other v2 Ybad.underlying22 hj (by simpa using hsz) (by simp) o1 o2
  have t2 := Two.make f1 f2
  obtain ⟨i, hi, hi8⟩ : ∃ i : Nat, (k : Int) % 8 = (i : Int) ∧ i < 8 := ⟨k % 8, by omega, by omega⟩
  rw [hi]
  have c0 : v2.cell? ⟨w.heap.size, i, none⟩ = some (.int .u32 (iv i)) := (f2.below.cell (p := ⟨w.heap.size, i, none⟩) (by simp [f1.size])).trans (f1.done i hi8)
  have z0 := t2.free i
  have hi8' : (i : Int) < 8 := by omega
  clear f1 f2 b0 b1 hk
  go_wp2_with fail
  clear hne
  go_region
  have t3 := (t2.set i (.int .u32 (bits .xor .u32 (iv i) (bits .or .u32 x 1)))).drew
  generalize (v2.setCell ⟨w.heap.size, i, none⟩ (.int .u32 (bits .xor .u32 (iv i) (bits .or .u32 x 1)))).drew = v3 at t3 ⊢
  clear t2 c0 z0
  obtain ⟨r, hr, hr64⟩ : ∃ r : Nat, (b : Int) % 64 = (r : Int) ∧ r < 64 := ⟨b % 64, by omega, by omega⟩
  have hr64' : (r : Int) < 64 := by omega
  obtain ⟨y1, c1⟩ := t3.one (8 + r) (by omega)
  have z1 := t3.free (8 + r)
  have t4 := t3.set (8 + r) (.int .u8 255)
  obtain ⟨y2, c2⟩ := t4.one 72 (by omega)
  have z2 := t4.free 72
  have t5 := t4.set 72 (.int .i64 3)
  obtain ⟨y3, c3⟩ := t5.one 73 (by omega)
  have z3 := t5.free 73
  have t6 := t5.set 73 (.int .u64 7)
  go_wp2_with fail
  clear c1 z1 c2 z2 c3 z3 t3 t4 t5
  generalize ((v3.setCell ⟨w.heap.size, 8 + r, none⟩ (.int .u8 255)).setCell ⟨w.heap.size, 72, none⟩ (.int .i64 3)).setCell ⟨w.heap.size, 73, none⟩ (.int .u64 7) = v6 at t6 ⊢
  go_loopw [10] (fun t u => ∃ j : Nat, j ≤ 8 ∧ t = .int .i64 j ∧ Two w u) (fun t _ => 8 - (intOf t).toNat)
  case atStart => exact ⟨0, by omega, rfl, t6⟩
  case round =>
    obtain ⟨j, hj, rfl, hu⟩ := hrel
    clear t6
    by_cases hlt : j < 8
    · have hc := hu.done j hlt
      have hlt' : (j : Int) < 8 := by omega
      go_wp2_with fail
      go_quiet ((go_at_call 6; exact Calls.quiet_of_same (biv_any j hlt _)))
      go_wp2_with fail
      go_roundw
      case rel => exact ⟨j + 1, by omega, by go_num, hu.drewN nq⟩
      case measure => simp [intOf]; omega
    · have hj8 : j = 8 := by omega
      subst hj8
      have c1 := (hu.rest (8 + r) (by omega)).trans (zero_byte r hr64)
      have c2 : _ = some (Value.int .i64 0) := hu.rest 72 (by omega)
      have c3 : _ = some (Value.int .u64 0) := hu.rest 73 (by omega)
      go_wp2_with fail
      refine (new_any wr (ht.keep hu.below)).mono ?_
      rintro e v7 ⟨rfl, f7⟩
      have c7 := f7.done i hi8
      have hb7 : Below w.heap.size w v7 := hu.below.trans (f7.below.mono (by rw [hu.size]; omega))
      clear hu c1 c2 c3 hlt
      generalize wr.heap.size = N at *
      go_wp2_with fail
      go_quiet ((go_at_call 6; exact Calls.quiet_of_same (biv_any i hi8 _)))
      go_wp2_with fail
      go_ret
      exact ⟨rfl, ⟨hb7.os, hb7.tape, hb7.output, hb7.size, hb7.block⟩⟩
end Go.Proofs.YbulkahfqDoor
