import Derived.Test.YbulkahcyRows
import Derived.WalkKit
import Derived.WalkSpells
import Derived.RowKit3
import Derived.OpenShut
import Derived.Test.YbulkahcyPlain
namespace Go.Proofs.Ybulkahcy
open Go.RowKit

set_option maxHeartbeats 400000 in
theorem store_any (a : Addr) (y : Int) (u : Value) (w : World) (hc : w.cell? a = some u) (hz : w.frozen? a = false) :
    Calls Yba.prog 8 #[.pointer (some a), .int .u64 y] w fun e w' => e = .returned (.tuple #[]) ∧ w' = w.setCell a (.int .u64 y) := by
  have hst := run_call_store (P := Yba.prog) Yba.func16 (by kernel_rfl) (by kernel_rfl) (by kernel_rfl) (by kernel_rfl) (k := .u64) (y := y) hc hz
  go_enter Yba.func8, Yba.ntmps8
  go_wp2
  go_end0
  exact ⟨rfl, rfl⟩

set_option maxHeartbeats 400000 in
theorem load_any (a : Addr) (x : Int) (w : World) (hc : w.cell? a = some (.int .u64 x)) :
    Calls Yba.prog 10 #[.pointer (some a)] w fun e w' => e = .returned (.int .u64 x) ∧ w' = w := by
  have hst := run_call_load (P := Yba.prog) Yba.func18 (by kernel_rfl) (by kernel_rfl) (by kernel_rfl) .u64 (by kernel_rfl) hc
  go_enter Yba.func10, Yba.ntmps10
  go_wp2
  go_ret
  exact ⟨rfl, rfl⟩

set_option maxHeartbeats 400000 in
theorem cas_any (a : Addr) (x y : Int) (w : World) (hc : w.cell? a = some (.int .u64 x)) (hz : w.frozen? a = false) :
    Calls Yba.prog 17 #[.pointer (some a), .int .u64 x, .int .u64 y] w fun e w' => e = .returned (.bool true) ∧ w' = w.setCell a (.int .u64 y) := by
  have hst := run_call_cas_hit (P := Yba.prog) Yba.func24 (by kernel_rfl) (by kernel_rfl) (by kernel_rfl) .u64 (by kernel_rfl) (y := y) hc hz
  go_enter Yba.func17, Yba.ntmps17
  go_wp2
  go_ret
  exact ⟨rfl, rfl⟩


set_option maxHeartbeats 400000 in
theorem unpark_wait (b : Nat) (w : World) (hc : w.cell? ⟨b, 4, none⟩ = some (.int .u64 4)) (hz : w.frozen? ⟨b, 4, none⟩ = false) :
    Calls Yba.prog 9 #[.pointer (some ⟨b, 0, none⟩)] w fun e w' => e = .returned (.bool true) ∧ w' = w.setCell ⟨b, 4, none⟩ (.int .u64 1) := by
  go_enter Yba.func9, Yba.ntmps9
  go_wp2
  go_loop [2, 3] (fun _ _ => True) (fun _ _ => 0)
  case atStart => trivial
  case round =>
    go_wp2_with (first
      | (go_at_call 10; refine (load_any _ _ _ hc).mono ?_; rintro e w' ⟨rfl, rfl⟩)
      | (go_at_call 17; refine (cas_any _ _ _ _ hc hz).mono ?_; rintro e w' ⟨rfl, rfl⟩))
    go_ret
    exact ⟨rfl, rfl⟩

set_option maxHeartbeats 400000 in
theorem unpark_woken (s : Int) (b : Nat) (w : World) (h : (bits .and .u64 s 256 != 0) = true) (h4 : (s == 4) = false) (hc : w.cell? ⟨b, 4, none⟩ = some (.int .u64 s)) :
    Calls Yba.prog 9 #[.pointer (some ⟨b, 0, none⟩)] w fun e w' => e = .returned (.bool false) ∧ w' = w := by
  go_enter Yba.func9, Yba.ntmps9
  go_wp2
  go_loop [2, 3] (fun _ _ => True) (fun _ _ => 0)
  case atStart => trivial
  case round =>
    go_wp2_with (first
      | (go_at_call 10; refine (load_any _ _ _ hc).mono ?_; rintro e w' ⟨rfl, rfl⟩))
    go_ret
    exact ⟨rfl, rfl⟩

set_option maxHeartbeats 400000 in
theorem unpark_other (s : Int) (b : Nat) (w : World) (h : (bits .and .u64 s 256 != 0) = false) (h4 : (s == 4) = false) (hc : w.cell? ⟨b, 4, none⟩ = some (.int .u64 s)) (hz : w.frozen? ⟨b, 4, none⟩ = false) :
    Calls Yba.prog 9 #[.pointer (some ⟨b, 0, none⟩)] w fun e w' => e = .returned (.bool false) ∧ w' = w.setCell ⟨b, 4, none⟩ (.int .u64 (bits .or .u64 s 256)) := by
  go_enter Yba.func9, Yba.ntmps9
  go_wp2
  go_loop [2, 3] (fun _ _ => True) (fun _ _ => 0)
  case atStart => trivial
  case round =>
    go_wp2_with (first
      | (go_at_call 10; refine (load_any _ _ _ hc).mono ?_; rintro e w' ⟨rfl, rfl⟩)
      | (go_at_call 17; refine (cas_any _ _ _ _ hc hz).mono ?_; rintro e w' ⟨rfl, rfl⟩))
    go_ret
    exact ⟨rfl, rfl⟩

/-- '(*Task).State' of a task whose status is 1. -/
theorem state_one (b : Nat) (w : World) (hc : w.cell? ⟨b, 4, none⟩ = some (.int .u64 1)) :
    Calls Yba.prog 11 #[.pointer (some ⟨b, 0, none⟩)] w fun e w' => e = .returned (.int .i64 1) ∧ w' = w := by
  have e1 : bits .and .u64 1 255 = 1 := by decide
  go_enter Yba.func11, Yba.ntmps11
  go_wp2_with (go_at_call 10; refine (load_any _ _ _ hc).mono ?_; rintro e w' ⟨rfl, rfl⟩)
  go_ret
  exact ⟨rfl, rfl⟩

theorem word_of {n : Int} {w : World} (h : (Lit.int .u64 n).wf = true) : ∃ s : Int, Ending.returned (.int .u64 n) = .returned (.int .u64 s) ∧ 0 ≤ s ∧ s < 18446744073709551616 ∧ w = w := by
  have := bounds_u64 h
  exact ⟨n, rfl, by omega, by omega, rfl⟩

/-- The status that the laws make: some word. -/
theorem status_any (a0 : Int) (a1 : Bool) (a2 : Int) (w : World) :
    Calls Yba.prog 7 #[.int .u8 a0, .bool a1, .int .u32 a2] w fun e w' => ∃ s : Int, e = .returned (.int .u64 s) ∧ 0 ≤ s ∧ s < 18446744073709551616 ∧ w' = w := by
  cases a1
  · go_enter Yba.func7, Yba.ntmps7
    go_wp2
    go_ret
    exact word_of (wf_bits _ .u64 _ _)
  · go_enter Yba.func7, Yba.ntmps7
    go_wp2
    go_ret
    exact word_of (wf_bits _ .u64 _ _)

/-- The law's own task, the last block that was laid over 'w': its status is 's'; of what was there nothing has turned. -/
structure TW (w : World) (s : Int) (v : World) : Prop where
  cell : v.cell? ⟨w.heap.size, 4, none⟩ = some (.int .u64 s)
  free : v.frozen? ⟨w.heap.size, 4, none⟩ = false
  grown : Grown w v

theorem TW.set {w v : World} {s : Int} (h : TW w s v) (s' : Int) : TW w s' (v.setCell ⟨w.heap.size, 4, none⟩ (.int .u64 s')) :=
  ⟨World.cell?_setCell_same v _ _ h.cell, by simpa [go_sem] using h.free, h.grown.setCell (Nat.le_refl _) _⟩

theorem TW.new (w : World) : TW w 0 (w.alloc (.cells #[.nilFunc, .int .u64 0, .pointer none, .pointer none, .int .u64 0, .pointer none] 35)) :=
  ⟨by simp [go_sem], by simp [go_sem], (Grown.refl w).alloc _ _⟩

theorem store_tw (w v : World) (s y : Int) (h : TW w s v) :
    Calls Yba.prog 8 #[.pointer (some ⟨w.heap.size, 4, none⟩), .int .u64 y] v fun e w' => e = .returned (.tuple #[]) ∧ TW w y w' := by
  refine (store_any _ y _ v h.cell h.free).mono ?_
  rintro e w' ⟨rfl, rfl⟩
  exact ⟨rfl, h.set y⟩

theorem load_tw (w v : World) (s : Int) (h : TW w s v) :
    Calls Yba.prog 10 #[.pointer (some ⟨w.heap.size, 4, none⟩)] v fun e w' => e = .returned (.int .u64 s) ∧ w' = v :=
  load_any _ s v h.cell

theorem unpark_wait_tw (w v : World) (h : TW w 4 v) :
    Calls Yba.prog 9 #[.pointer (some ⟨w.heap.size, 0, none⟩)] v fun e w' => e = .returned (.bool true) ∧ TW w 1 w' := by
  refine (unpark_wait _ v h.cell h.free).mono ?_
  rintro e w' ⟨rfl, rfl⟩
  exact ⟨rfl, h.set 1⟩

theorem unpark_woken_tw (w v : World) (s : Int) (hs : (bits .and .u64 s 256 != 0) = true) (h : TW w s v) :
    Calls Yba.prog 9 #[.pointer (some ⟨w.heap.size, 0, none⟩)] v fun e w' => e = .returned (.bool false) ∧ TW w s w' := by
  refine (unpark_woken s _ v hs (set_ne4 s hs) h.cell).mono ?_
  rintro e w' ⟨rfl, rfl⟩
  exact ⟨rfl, h⟩

theorem unpark_other_tw (w v : World) (s : Int) (hs : (bits .and .u64 s 256 != 0) = false) (h4 : (s == 4) = false) (h : TW w s v) :
    Calls Yba.prog 9 #[.pointer (some ⟨w.heap.size, 0, none⟩)] v fun e w' => e = .returned (.bool false) ∧ TW w (bits .or .u64 s 256) w' := by
  refine (unpark_other s _ v hs h4 h.cell h.free).mono ?_
  rintro e w' ⟨rfl, rfl⟩
  exact ⟨rfl, h.set _⟩

theorem state_tw (w v : World) (h : TW w 1 v) :
    Calls Yba.prog 11 #[.pointer (some ⟨w.heap.size, 0, none⟩)] v fun e w' => e = .returned (.int .i64 1) ∧ w' = v :=
  state_one _ v h.cell
end Go.Proofs.Ybulkahcy
