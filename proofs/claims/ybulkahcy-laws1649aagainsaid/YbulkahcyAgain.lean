import Derived.Test.YbulkahcyPark
namespace Go.Proofs.Ybulkahcy
open Go.RowKit

/-- A wake-up that is stored is not '== 0' under the mask. -/
theorem eq0_of_set (s : Int) (h : (bits .and .u64 s 256 != 0) = true) : (bits .and .u64 s 256 == 0) = false := by
  simpa using h

/-- ONE unpark, of whatever status: it answers something; where the status was 4 it is 1, else it holds a wake-up. -/
theorem unpark_first (w v : World) (s : Int) (h0 : 0 ≤ s) (h1 : s < 18446744073709551616) (h : TW w s v) :
    Calls Yba.prog 9 #[.pointer (some ⟨w.heap.size, 0, none⟩)] v fun e w' => ∃ (r : Bool) (s' : Int), e = .returned (.bool r) ∧ TW w s' w' ∧ (s' = 1 ∨ (bits .and .u64 s' 256 != 0) = true) := by
  by_cases h4 : s = 4
  · subst h4
    refine (unpark_wait_tw w v h).mono ?_
    rintro e w' ⟨rfl, t⟩
    exact ⟨_, _, rfl, t, Or.inl rfl⟩
  · by_cases hs : (bits .and .u64 s 256 != 0) = true
    · refine (unpark_woken_tw w v s hs h).mono ?_
      rintro e w' ⟨rfl, t⟩
      exact ⟨_, _, rfl, t, Or.inr hs⟩
    · refine (unpark_other_tw w v s (by simpa using hs) (by simpa using h4) h).mono ?_
      rintro e w' ⟨rfl, t⟩
      exact ⟨_, _, rfl, t, Or.inr (or_set s h0 h1)⟩

/-- The second one: false; a wake-up is stored. -/
theorem unpark_second (w v : World) (s : Int) (hs : s = 1 ∨ (bits .and .u64 s 256 != 0) = true) (h : TW w s v) :
    Calls Yba.prog 9 #[.pointer (some ⟨w.heap.size, 0, none⟩)] v fun e w' => ∃ s' : Int, e = .returned (.bool false) ∧ TW w s' w' ∧ (bits .and .u64 s' 256 != 0) = true := by
  rcases hs with rfl | hs
  · refine (unpark_other_tw w v 1 (by decide) (by decide) h).mono ?_
    rintro e w' ⟨rfl, t⟩
    exact ⟨_, rfl, t, by decide⟩
  · refine (unpark_woken_tw w v s hs h).mono ?_
    rintro e w' ⟨rfl, t⟩
    exact ⟨_, rfl, t, hs⟩

set_option maxHeartbeats 400000 in
theorem again_walk (a0 : Int) (a1 : Bool) (a2 : Int) (w : World) :
    Calls Yba.prog 5 #[.int .u8 a0, .bool a1, .int .u32 a2] w fun e w' => e = .returned (.bool true) ∧ Grown w w' := by
  have hn := TW.new w
  go_enter Yba.func5, Yba.ntmps5
  go_wp2_with fail
  refine (status_any a0 a1 a2 _).mono ?_
  rintro e v0 ⟨s, rfl, h0, h1, rfl⟩
  go_wp2_with fail
  refine (store_tw v0 _ _ s hn).mono ?_
  rintro e v1 ⟨rfl, t1⟩
  go_wp2_with fail
  refine (unpark_first v0 _ s h0 h1 t1).mono ?_
  rintro e v2 ⟨r, s2, rfl, t2, q2⟩
  go_wp2_with fail
  refine (unpark_second v0 _ s2 q2 t2).mono ?_
  rintro e v3 ⟨s3, rfl, t3, q3⟩
  have z3 := eq0_of_set s3 q3
  go_wp2_with fail
  refine (load_tw v0 _ s3 t3).mono ?_
  rintro e v4 ⟨rfl, rfl⟩
  go_wp2_with fail
  refine (unpark_woken_tw v0 _ s3 q3 t3).mono ?_
  rintro e v5 ⟨rfl, t5⟩
  go_wp2_with fail
  refine (load_tw v0 _ s3 t5).mono ?_
  rintro e v6 ⟨rfl, rfl⟩
  go_wp2_with fail
  go_ret
  exact ⟨rfl, t5.grown⟩
end Go.Proofs.Ybulkahcy
