import Derived.Test.YbulkahfqDoorRows
import Derived.WalkKit
import Derived.WalkSpells
import Derived.RowKit3
import Derived.Below
namespace Go.Proofs.YbulkahfqDoor
open Go.RowKit

/-- The eight numbers of the law's own switch. -/
def iv (k : Nat) : Int := [1779033703, 3144134277, 1013904242, 2773480762, 1359893119, 2600822924, 528734635, 1541459225].getD k 0

set_option maxHeartbeats 400000 in
theorem biv_any (k : Nat) (hk : k < 8) (w : World) :
    Calls Ybad.prog 6 #[.int .i64 (k : Int)] w fun e w' => e = .returned (.int .u32 (iv k)) ∧ w' = w := by
  have h : k = 0 ∨ k = 1 ∨ k = 2 ∨ k = 3 ∨ k = 4 ∨ k = 5 ∨ k = 6 ∨ k = 7 := by omega
  rcases h with rfl | rfl | rfl | rfl | rfl | rfl | rfl | rfl
  all_goals
    go_enter Ybad.func6, Ybad.ntmps6
    go_wp2
    go_ret
    exact ⟨rfl, rfl⟩

/-- A new SHA256, all zero: eight words, the block's 64 bytes, two counts. -/
def zero74 : Array Value := (List.replicate 8 (Value.int .u32 0) ++ List.replicate 64 (Value.int .u8 0) ++ [Value.int .i64 0, Value.int .u64 0]).toArray

theorem zero_run (w : World) : (zeroValue 29).run Ybad.prog w = .ok (.agg zero74) w := by kernel_rfl

/-- What the variable 'sha512Init' holds. -/
structure Tab (w : World) : Prop where
  h0 : w.cell? ⟨0, 0, none⟩ = some (.int .u64 7640891576956012808)
  h1 : w.cell? ⟨0, 1, none⟩ = some (.int .u64 13503953896175478587)
  h2 : w.cell? ⟨0, 2, none⟩ = some (.int .u64 4354685564936845355)
  h3 : w.cell? ⟨0, 3, none⟩ = some (.int .u64 11912009170470909681)
  h4 : w.cell? ⟨0, 4, none⟩ = some (.int .u64 5840696475078001361)
  h5 : w.cell? ⟨0, 5, none⟩ = some (.int .u64 11170449401992604703)
  h6 : w.cell? ⟨0, 6, none⟩ = some (.int .u64 2270897969802886507)
  h7 : w.cell? ⟨0, 7, none⟩ = some (.int .u64 6620516959819538809)

theorem Tab.pos {w : World} (h : Tab w) : 0 < w.heap.size := by
  have h0 := h.h0
  unfold World.cell? at h0
  split at h0
  · rename_i c e fr hb
    exact (Array.getElem?_eq_some_iff.1 hb).1
  · cases h0

/-- The block under way: its first k words are laid; the rest is zero; nothing else has turned. -/
structure Filled (w : World) (k : Nat) (v : World) : Prop where
  below : Below w.heap.size w v
  size : v.heap.size = w.heap.size + 1
  done : ∀ j, j < k → v.cell? ⟨w.heap.size, j, none⟩ = some (.int .u32 (iv j))
  rest : ∀ j, k ≤ j → v.cell? ⟨w.heap.size, j, none⟩ = zero74[j]?
  free : ∀ j, v.frozen? ⟨w.heap.size, j, none⟩ = false
  obj : ∃ ca : Array Value, v.heap[w.heap.size]? = some (.cells ca 29 (0, 0))

theorem obj_set {v : World} {N : Nat} (h : ∃ ca : Array Value, v.heap[N]? = some (.cells ca 29 (0, 0))) (a : Addr) (x : Value) : ∃ ca : Array Value, (v.setCell a x).heap[N]? = some (.cells ca 29 (0, 0)) := by
  obtain ⟨ca, h⟩ := h
  simp only [World.setCell, Array.getElem?_modify]
  split
  · simp [h]
  · exact ⟨ca, h⟩

theorem Filled.start (w : World) : Filled w 0 (w.alloc (.cells zero74 29)) :=
  ⟨(Below.refl _ _).alloc (Nat.le_refl _) _, by simp, fun _ h => absurd h (by omega), fun j _ => by simp [go_sem], fun j => by simp [go_sem], ⟨zero74, (MapKept.heap_alloc w _).1⟩⟩

theorem Filled.step {w v : World} {k : Nat} (h : Filled w k v) (hk : k < 8) {n : Int} (hn : n = iv k) : Filled w (k + 1) (v.setCell ⟨w.heap.size, k, none⟩ (.int .u32 n)) := by
  subst hn
  have h0 : v.cell? ⟨w.heap.size, k, none⟩ = some (.int .u32 0) := by
    rw [h.rest k (Nat.le_refl _)]
    have h : k = 0 ∨ k = 1 ∨ k = 2 ∨ k = 3 ∨ k = 4 ∨ k = 5 ∨ k = 6 ∨ k = 7 := by omega
    rcases h with rfl | rfl | rfl | rfl | rfl | rfl | rfl | rfl <;> rfl
  refine ⟨h.below.setCell (Nat.le_refl _) _, by rw [← h.size]; simp [World.setCell], fun j hj => ?_, fun j hj => ?_, fun j => ?_, obj_set h.obj _ _⟩
  · by_cases e : j = k
    · subst e
      exact World.cell?_setCell_same v _ _ h0
    · rw [World.cell?_setCell_other _ _ _ _ (by simp)]
      exact h.done j (by omega)
  · rw [World.cell?_setCell_other _ _ _ _ (by simp only [ne_eq, Addr.mk.injEq, not_and]; omega)]
    exact h.rest j (by omega)
  · rw [World.frozen?_setCell]
    exact h.free j

/-! 'x' of the round k. -/
theorem ix0 (w : World) : (Instr.index 33 (.agg #[.int .u64 7640891576956012808, .int .u64 13503953896175478587, .int .u64 4354685564936845355, .int .u64 11912009170470909681, .int .u64 5840696475078001361, .int .u64 11170449401992604703, .int .u64 2270897969802886507, .int .u64 6620516959819538809]) (.int .i64 0)).run Ybad.prog w = .ok (.int .u64 7640891576956012808) w := by kernel_rfl
theorem ix1 (w : World) : (Instr.index 33 (.agg #[.int .u64 7640891576956012808, .int .u64 13503953896175478587, .int .u64 4354685564936845355, .int .u64 11912009170470909681, .int .u64 5840696475078001361, .int .u64 11170449401992604703, .int .u64 2270897969802886507, .int .u64 6620516959819538809]) (.int .i64 1)).run Ybad.prog w = .ok (.int .u64 13503953896175478587) w := by kernel_rfl
theorem ix2 (w : World) : (Instr.index 33 (.agg #[.int .u64 7640891576956012808, .int .u64 13503953896175478587, .int .u64 4354685564936845355, .int .u64 11912009170470909681, .int .u64 5840696475078001361, .int .u64 11170449401992604703, .int .u64 2270897969802886507, .int .u64 6620516959819538809]) (.int .i64 2)).run Ybad.prog w = .ok (.int .u64 4354685564936845355) w := by kernel_rfl
theorem ix3 (w : World) : (Instr.index 33 (.agg #[.int .u64 7640891576956012808, .int .u64 13503953896175478587, .int .u64 4354685564936845355, .int .u64 11912009170470909681, .int .u64 5840696475078001361, .int .u64 11170449401992604703, .int .u64 2270897969802886507, .int .u64 6620516959819538809]) (.int .i64 3)).run Ybad.prog w = .ok (.int .u64 11912009170470909681) w := by kernel_rfl
theorem ix4 (w : World) : (Instr.index 33 (.agg #[.int .u64 7640891576956012808, .int .u64 13503953896175478587, .int .u64 4354685564936845355, .int .u64 11912009170470909681, .int .u64 5840696475078001361, .int .u64 11170449401992604703, .int .u64 2270897969802886507, .int .u64 6620516959819538809]) (.int .i64 4)).run Ybad.prog w = .ok (.int .u64 5840696475078001361) w := by kernel_rfl
theorem ix5 (w : World) : (Instr.index 33 (.agg #[.int .u64 7640891576956012808, .int .u64 13503953896175478587, .int .u64 4354685564936845355, .int .u64 11912009170470909681, .int .u64 5840696475078001361, .int .u64 11170449401992604703, .int .u64 2270897969802886507, .int .u64 6620516959819538809]) (.int .i64 5)).run Ybad.prog w = .ok (.int .u64 11170449401992604703) w := by kernel_rfl
theorem ix6 (w : World) : (Instr.index 33 (.agg #[.int .u64 7640891576956012808, .int .u64 13503953896175478587, .int .u64 4354685564936845355, .int .u64 11912009170470909681, .int .u64 5840696475078001361, .int .u64 11170449401992604703, .int .u64 2270897969802886507, .int .u64 6620516959819538809]) (.int .i64 6)).run Ybad.prog w = .ok (.int .u64 2270897969802886507) w := by kernel_rfl
theorem ix7 (w : World) : (Instr.index 33 (.agg #[.int .u64 7640891576956012808, .int .u64 13503953896175478587, .int .u64 4354685564936845355, .int .u64 11912009170470909681, .int .u64 5840696475078001361, .int .u64 11170449401992604703, .int .u64 2270897969802886507, .int .u64 6620516959819538809]) (.int .i64 7)).run Ybad.prog w = .ok (.int .u64 6620516959819538809) w := by kernel_rfl

set_option maxHeartbeats 400000 in
theorem new_any (w : World) (ht : Tab w) :
    Calls Ybad.prog 5 #[] w fun e w' => e = .returned (.pointer (some ⟨w.heap.size, 0, none⟩)) ∧ Filled w 8 w' := by
  have hz := zero_run w
  have hpos := ht.pos
  have hs := Filled.start w
  obtain ⟨h0, h1, h2, h3, h4, h5, h6, h7⟩ := ht
  go_enter Ybad.func5, Ybad.ntmps5
  go_wp2
  clear h0 h1 h2 h3 h4 h5 h6 h7 hz
  go_loopw [6] (fun t v => ∃ k : Nat, k ≤ 8 ∧ t = .int .i64 k ∧ Filled w k v) (fun t _ => 8 - (intOf t).toNat)
  case atStart => exact ⟨0, by omega, rfl, hs⟩
  case round =>
    obtain ⟨k, hk, rfl, hf⟩ := hrel
    clear hs
    have h : k = 0 ∨ k = 1 ∨ k = 2 ∨ k = 3 ∨ k = 4 ∨ k = 5 ∨ k = 6 ∨ k = 7 ∨ k = 8 := by omega
    rcases h with rfl | rfl | rfl | rfl | rfl | rfl | rfl | rfl | rfl
    · have hc := hf.rest 0 (by omega)
      have hz := hf.free 0
      have hx := ix0
      go_wp2
      go_roundw
      case rel => exact ⟨1, by omega, rfl, hf.step (by omega) rfl⟩
      case measure => simp [intOf]
    · have hc := hf.rest 1 (by omega)
      have hz := hf.free 1
      have hx := ix1
      go_wp2
      go_roundw
      case rel => exact ⟨2, by omega, rfl, hf.step (by omega) rfl⟩
      case measure => simp [intOf]
    · have hc := hf.rest 2 (by omega)
      have hz := hf.free 2
      have hx := ix2
      go_wp2
      go_roundw
      case rel => exact ⟨3, by omega, rfl, hf.step (by omega) rfl⟩
      case measure => simp [intOf]
    · have hc := hf.rest 3 (by omega)
      have hz := hf.free 3
      have hx := ix3
      go_wp2
      go_roundw
      case rel => exact ⟨4, by omega, rfl, hf.step (by omega) rfl⟩
      case measure => simp [intOf]
    · have hc := hf.rest 4 (by omega)
      have hz := hf.free 4
      have hx := ix4
      go_wp2
      go_roundw
      case rel => exact ⟨5, by omega, rfl, hf.step (by omega) rfl⟩
      case measure => simp [intOf]
    · have hc := hf.rest 5 (by omega)
      have hz := hf.free 5
      have hx := ix5
      go_wp2
      go_roundw
      case rel => exact ⟨6, by omega, rfl, hf.step (by omega) rfl⟩
      case measure => simp [intOf]
    · have hc := hf.rest 6 (by omega)
      have hz := hf.free 6
      have hx := ix6
      go_wp2
      go_roundw
      case rel => exact ⟨7, by omega, rfl, hf.step (by omega) rfl⟩
      case measure => simp [intOf]
    · have hc := hf.rest 7 (by omega)
      have hz := hf.free 7
      have hx := ix7
      go_wp2
      go_roundw
      case rel => exact ⟨8, by omega, rfl, hf.step (by omega) rfl⟩
      case measure => simp [intOf]
    · go_wp2
      go_ret
      exact ⟨rfl, hf⟩

theorem mid_at {α : Type} (a b : α) (c : List α) (m n j : Nat) (hj : j < n) : (List.replicate m a ++ List.replicate n b ++ c)[m + j]? = some b := by
  rw [List.append_assoc, List.getElem?_append_right (by simp), List.getElem?_append_left (by simp; omega)]
  simp [hj]

theorem zero_byte (j : Nat) (hj : j < 64) : zero74[8 + j]? = some (.int .u8 0) := by
  unfold zero74
  rw [List.getElem?_toArray]
  exact mid_at _ _ _ 8 64 j hj
end Go.Proofs.YbulkahfqDoor
