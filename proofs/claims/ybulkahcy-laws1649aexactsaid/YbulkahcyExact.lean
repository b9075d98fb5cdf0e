import Derived.Test.YbulkahcyPark
namespace Go.Proofs.Ybulkahcy
open Go.RowKit

/-- 's+256' as the walk spells it, where the wake-up bit of 's' is not set: what the swap has stored. -/
theorem add_is_or (s : Int) (h0 : 0 ≤ s) (h1 : s < 18446744073709551616) (hs : (bits .and .u64 s 256 != 0) = false) : (bits .or .u64 s 256 == IntKind.u64.wrap (s + 256)) = true := by
  have := or_add s h0 h1 hs
  rw [this.1, beq_iff_eq]
  simp only [IntKind.wrap, IntKind.signed, IntKind.bits]
  simp
  omega

set_option maxHeartbeats 400000 in
theorem exact_walk (a0 : Int) (a1 : Bool) (a2 : Int) (w : World) :
    Calls Yba.prog 3 #[.int .u8 a0, .bool a1, .int .u32 a2] w fun e w' => e = .returned (.bool true) ∧ Grown w w' := by
  have hn := TW.new w
  go_enter Yba.func3, Yba.ntmps3
  go_wp2_with fail
  refine (status_any a0 a1 a2 _).mono ?_
  rintro e v0 ⟨s, rfl, h0, h1, rfl⟩
  go_wp2_with fail
  refine (store_tw v0 _ _ s hn).mono ?_
  rintro e v1 ⟨rfl, t1⟩
  by_cases h4 : s = 4
  · subst h4
    go_wp2_with fail
    refine (unpark_wait_tw v0 _ t1).mono ?_
    rintro e v2 ⟨rfl, t2⟩
    go_wp2_with fail
    refine (load_tw v0 _ 1 t2).mono ?_
    rintro e v3 ⟨rfl, rfl⟩
    go_wp2_with fail
    go_ret
    exact ⟨rfl, t2.grown⟩
  · have h4' : (s == 4) = false := by simpa using h4
    clear h4
    by_cases hs : (bits .and .u64 s 256 != 0) = true
    · go_wp2_with fail
      refine (unpark_woken_tw v0 _ s hs t1).mono ?_
      rintro e v2 ⟨rfl, t2⟩
      go_wp2_with fail
      refine (load_tw v0 _ s t2).mono ?_
      rintro e v3 ⟨rfl, rfl⟩
      go_wp2_with fail
      go_ret
      exact ⟨rfl, t2.grown⟩
    · have hs' : (bits .and .u64 s 256 != 0) = false := by simpa using hs
      clear hs
      have ha := add_is_or s h0 h1 hs'
      go_wp2_with fail
      refine (unpark_other_tw v0 _ s hs' h4' t1).mono ?_
      rintro e v2 ⟨rfl, t2⟩
      go_wp2_with fail
      refine (load_tw v0 _ _ t2).mono ?_
      rintro e v3 ⟨rfl, rfl⟩
      go_wp2_with fail
      go_ret
      exact ⟨rfl, t2.grown⟩
end Go.Proofs.Ybulkahcy
