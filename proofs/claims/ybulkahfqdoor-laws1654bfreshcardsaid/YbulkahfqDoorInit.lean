import Derived.Test.YbulkahfqDoorNew
import Derived.Deep.QuietTactic
import Derived.BigQuiet
namespace Go.Proofs.YbulkahfqDoor
open Go.RowKit

theorem Filled.drewN {w v : World} {k : Nat} (h : Filled w k v) (n : Nat) : Filled w k (v.drewN n) := by
  induction n with
  | zero => exact h
  | succ n ih =>
    obtain ⟨a, b, c, d, e, f⟩ := ih
    exact ⟨a.drew, b, c, d, e, f⟩

set_option maxHeartbeats 400000 in
theorem init_walk (w : World) (ht : Tab w) :
    Calls Ybad.prog 3 #[] w fun e w' => e = .returned (.bool true) ∧ Below w.heap.size w w' := by
  go_enter Ybad.func3, Ybad.ntmps3
  go_wp2_with fail
  refine (new_any w ht).mono ?_
  rintro e v ⟨rfl, hf⟩
  go_wp2_with fail
  go_loopw [2] (fun t u => ∃ k : Nat, k ≤ 8 ∧ t = .int .i64 k ∧ Filled w 8 u) (fun t _ => 8 - (intOf t).toNat)
  case atStart => exact ⟨0, by omega, rfl, hf⟩
  case round =>
    obtain ⟨k, hk, rfl, hu⟩ := hrel
    by_cases hlt : k < 8
    · have hc := hu.done k hlt
      have hlt' : (k : Int) < 8 := by omega
      go_wp2_with fail
      go_quiet ((go_at_call 6; exact Calls.quiet_of_same (biv_any k hlt _)))
      go_wp2_with fail
      go_roundw
      case rel => exact ⟨k + 1, by omega, by go_num, hu.drewN nq⟩
      case measure => simp [intOf]; omega
    · have hk8 : k = 8 := by omega
      subst hk8
      clear hf
      go_wp2_with fail
      go_loopw [3] (fun t u => ∃ k : Nat, k ≤ 64 ∧ t = .int .i64 k ∧ Filled w 8 u) (fun t _ => 64 - (intOf t).toNat)
      case atStart => exact ⟨0, by omega, rfl, hu⟩
      case round =>
        obtain ⟨j, hj, rfl, hv⟩ := hrel
        by_cases hlt : j < 64
        · have hc := (hv.rest (8 + j) (by omega)).trans (zero_byte j hlt)
          have hlt' : (j : Int) < 64 := by omega
          go_wp2_with fail
          go_roundw
          case rel => exact ⟨j + 1, by omega, by go_num, hv⟩
          case measure => simp [intOf]; omega
        · have hj8 : j = 64 := by omega
          subst hj8
          have c2 : _ = some (Value.int .i64 0) := hv.rest 72 (by omega)
          have c3 : _ = some (Value.int .u64 0) := hv.rest 73 (by omega)
          go_wp2_with fail
          go_ret
          exact ⟨rfl, hv.below⟩
end Go.Proofs.YbulkahfqDoor
