import Derived.Test.YbulkahcyPark
namespace Go.Proofs.Ybulkahcy
open Go.RowKit

set_option maxHeartbeats 400000 in
theorem raw_wait (w : World) :
    Calls Yba.prog 4 #[.int .u64 4] w fun e w' => e = .returned (.bool true) ∧ Grown w w' := by
  have hn := TW.new w
  go_enter Yba.func4, Yba.ntmps4
  go_wp2_with fail
  refine (store_tw w _ _ 4 hn).mono ?_
  rintro e v1 ⟨rfl, h1⟩
  go_wp2_with fail
  refine (unpark_wait_tw w _ h1).mono ?_
  rintro e v2 ⟨rfl, h2⟩
  go_wp2_with fail
  refine (load_tw w _ 1 h2).mono ?_
  rintro e v3 ⟨rfl, rfl⟩
  go_wp2_with fail
  refine (state_tw w _ h2).mono ?_
  rintro e v4 ⟨rfl, rfl⟩
  go_wp2_with fail
  go_ret
  exact ⟨rfl, h2.grown⟩

set_option maxHeartbeats 400000 in
theorem raw_woken (s : Int) (hs : (bits .and .u64 s 256 != 0) = true) (w : World) :
    Calls Yba.prog 4 #[.int .u64 s] w fun e w' => e = .returned (.bool true) ∧ Grown w w' := by
  have hn := TW.new w
  have h4 := set_ne4 s hs
  go_enter Yba.func4, Yba.ntmps4
  go_wp2_with fail
  refine (store_tw w _ _ s hn).mono ?_
  rintro e v1 ⟨rfl, h1⟩
  go_wp2_with fail
  refine (unpark_woken_tw w _ s hs h1).mono ?_
  rintro e v2 ⟨rfl, h2⟩
  go_wp2_with fail
  refine (load_tw w _ s h2).mono ?_
  rintro e v3 ⟨rfl, rfl⟩
  go_wp2_with fail
  go_ret
  exact ⟨rfl, h2.grown⟩

set_option maxHeartbeats 400000 in
theorem raw_other (s : Int) (hs : (bits .and .u64 s 256 != 0) = false) (h4 : (s == 4) = false) (w : World) :
    Calls Yba.prog 4 #[.int .u64 s] w fun e w' => e = .returned (.bool true) ∧ Grown w w' := by
  have hn := TW.new w
  go_enter Yba.func4, Yba.ntmps4
  go_wp2_with fail
  refine (store_tw w _ _ s hn).mono ?_
  rintro e v1 ⟨rfl, h1⟩
  go_wp2_with fail
  refine (unpark_other_tw w _ s hs h4 h1).mono ?_
  rintro e v2 ⟨rfl, h2⟩
  go_wp2_with fail
  refine (load_tw w _ _ h2).mono ?_
  rintro e v3 ⟨rfl, rfl⟩
  go_wp2_with fail
  go_ret
  exact ⟨rfl, h2.grown⟩

theorem raw_walk (s : Int) (w : World) :
    Calls Yba.prog 4 #[.int .u64 s] w fun e w' => e = .returned (.bool true) ∧ Grown w w' := by
  by_cases h4 : s = 4
  · subst h4; exact raw_wait w
  · have h4' : (s == 4) = false := by simpa using h4
    by_cases hs : (bits .and .u64 s 256 != 0) = true
    · exact raw_woken s hs w
    · exact raw_other s (by simpa using hs) h4' w
end Go.Proofs.Ybulkahcy
