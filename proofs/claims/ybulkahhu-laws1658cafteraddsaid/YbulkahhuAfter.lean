import Derived.Test.YbulkahhuExact
namespace Go.Proofs.Ybulkahhu
open Go.RowKit

/-! ### THE PLAIN LAW -/
theorem has_added (L : List (ByteArray × ByteArray)) (r f : ByteArray) : has (L ++ [(r, f)]) r f = true := by
  simp [has, hit]
theorem has_same (L : List (ByteArray × ByteArray)) (r f a b : ByteArray) (h1 : a.toList = r.toList) (h2 : b.toList = f.toList) : has (L ++ [(r, f)]) a b = true := by
  simp [has, hit, h1, h2]
theorem has_other (L : List (ByteArray × ByteArray)) (r f a b : ByteArray) (h : ¬ (a.toList = r.toList ∧ b.toList = f.toList)) : has (L ++ [(r, f)]) a b = has L a b := by
  have e : hit a b (r, f) = false := by
    simp only [hit, Bool.and_eq_false_iff, beq_eq_false_iff_ne, ne_eq]
    by_cases h1 : r.toList = a.toList
    · right
      intro h2
      exact h ⟨h1.symm, h2.symm⟩
    · left
      exact h1
  simp [has, e]

/-- One of the lists is too long. -/
theorem after_long (ao0 ao1 : Option Addr) (n0 n1 c0 c1 : Nat) (r f a b : ByteArray) (w : World) (h : 1024 < n0) :
    Calls Yba.prog 4 #[.slice ao0 n0 c0, .slice ao1 n1 c1, .string r, .string f, .string a, .string b] w fun e w' => e = .returned (.bool true) ∧ Below w.heap.size w w' := by
  go_enter Yba.func4, Yba.ntmps4
  go_wp2_with fail
  go_ret
  exact ⟨rfl, Below.refl _ _⟩
theorem after_long2 (ao0 ao1 : Option Addr) (n0 n1 c0 c1 : Nat) (r f a b : ByteArray) (w : World) (h0 : n0 ≤ 1024) (h : 1024 < n1) :
    Calls Yba.prog 4 #[.slice ao0 n0 c0, .slice ao1 n1 c1, .string r, .string f, .string a, .string b] w fun e w' => e = .returned (.bool true) ∧ Below w.heap.size w w' := by
  have h0' : decide (1024 < (n0 : Int)) = false := by simp; omega
  go_enter Yba.func4, Yba.ntmps4
  go_wp2_with fail
  go_ret
  exact ⟨rfl, Below.refl _ _⟩

set_option maxHeartbeats 1600000 in
theorem after_some (b0 o0 b1 o1 c0 c1 : Nat) (xs ys : List ByteArray) (r f a b : ByteArray) (w : World) (h0 : xs.length ≤ 1024) (h1 : ys.length ≤ 1024) (p0 : 0 < xs.length) (p1 : 0 < ys.length)
    (l0 : b0 < w.heap.size) (l1 : b1 < w.heap.size) (v0 : ∀ i (h : i < xs.length), w.cell? ⟨b0, o0 + i, none⟩ = some (.string xs[i])) (v1 : ∀ i (h : i < ys.length), w.cell? ⟨b1, o1 + i, none⟩ = some (.string ys[i])) :
    Calls Yba.prog 4 #[.slice (some ⟨b0, o0, none⟩) xs.length c0, .slice (some ⟨b1, o1, none⟩) ys.length c1, .string r, .string f, .string a, .string b] w fun e w' => e = .returned (.bool true) ∧ Below w.heap.size w w' := by
  have g0 : decide (1024 < (xs.length : Int)) = false := by simp; omega
  have g1 : decide (1024 < (ys.length : Int)) = false := by simp; omega
  have hst := Rec.start w
  obtain ⟨m, hmz, hm0, hm1, hmp, hmm⟩ : ∃ m : Nat, Hid (m = (xs.zip ys).length) ∧ m ≤ xs.length ∧ m ≤ ys.length ∧ 0 < m ∧ (m = xs.length ∧ ¬ (ys.length : Int) < xs.length ∨ m = ys.length ∧ (ys.length : Int) < xs.length) :=
    ⟨min xs.length ys.length, by simp [Hid], by omega, by omega, by omega, by omega⟩
  rcases hmm with ⟨hme, hlt⟩ | ⟨hme, hlt⟩
  all_goals
    go_enter Yba.func4, Yba.ntmps4
    go_wp2_with fail
    rw [← hme]
    go_loopw [15] (fun i v => ∃ k : Nat, k ≤ m ∧ i = .int .i64 k ∧ Rec w w.heap.size ((xs.zip ys).take k) v) (fun i _ => m - (intOf i).toNat)
    case atStart => exact ⟨0, Nat.zero_le _, rfl, hst⟩
    case round =>
      obtain ⟨k, hk, rfl, hr⟩ := hrel
      clear hst hme hlt
      by_cases hkm : k < m
      · have e0 := (hr.below.cell (p := ⟨b0, o0 + k, none⟩) l0).trans (v0 k (by omega))
        have e1 := (hr.below.cell (p := ⟨b1, o1 + k, none⟩) l1).trans (v1 k (by omega))
        have q0 : (k : Int) < xs.length := by omega
        have q1 : (k : Int) < ys.length := by omega
        have q2 : (k : Int) < m := by omega
        have hl : ((xs.zip ys).take k).length ≤ 2000 := by simp; omega
        have ht := take_zip xs ys k (by omega) (by omega)
        have hrd : Rec w w.heap.size ((xs.zip ys).take k) wr.drew := by
          obtain ⟨lv, bs, a1, a2, a3, a4, a5⟩ := hr
          exact ⟨lv, bs, a1.drew, a2, a3, a4, a5⟩
        have hadd := add_any w _ w.heap.size _ xs[k] ys[k] hrd hl
        rw [← ht] at hadd
        clear ht hl hr hrd
        go_wp2_with fail
        go_region_with (go_at_call 5; refine hadd.mono ?_; rintro e v' ⟨rfl, hr'⟩)
        all_goals
          go_wp2_with fail
          go_roundw
          case rel => exact ⟨k + 1, by omega, by go_num, by assumption⟩
          case measure => simp [intOf]; omega
      · have hkm' : m = k := by omega
        subst hkm'
        rw [List.take_of_length_le (by rw [← hmz.out]; omega)] at hr
        have hl : (xs.zip ys).length ≤ 1999 := by rw [← hmz.out]; omega
        clear hmz
        generalize xs.zip ys = L at hr hl
        go_wp2_with fail
        refine (has_any w _ w.heap.size L a b hr (by omega)).mono ?_
        rintro e v1 ⟨rfl, rfl⟩
        go_wp2_with fail
        refine (add_any w _ w.heap.size L r f hr (by omega)).mono ?_
        rintro e v2 ⟨rfl, hr2⟩
        have hl2 : (L ++ [(r, f)]).length ≤ 2000 := by simp; omega
        clear hr
        go_wp2_with fail
        refine (has_any w _ w.heap.size _ r f hr2 hl2).mono ?_
        rintro e v3 ⟨rfl, rfl⟩
        rw [has_added]
        go_wp2_with fail
        refine (has_any w _ w.heap.size _ a b hr2 hl2).mono ?_
        rintro e v4 ⟨rfl, rfl⟩
        have hbel := hr2.below
        clear hr2
        by_cases hb1 : a.toList = r.toList
        · by_cases hb2 : b.toList = f.toList
          · rw [has_same L r f a b hb1 hb2]
            have hb1' : (a.toList == r.toList) = true := by simpa using hb1
            have hb2' : (b.toList == f.toList) = true := by simpa using hb2
            clear hb1 hb2
            go_wp2_with fail
            go_ret
            exact ⟨rfl, hbel⟩
          · rw [has_other L r f a b (fun h => hb2 h.2)]
            have hb1' : (a.toList == r.toList) = true := by simpa using hb1
            have hb2' : (b.toList == f.toList) = false := by simpa using hb2
            clear hb1 hb2
            go_wp2_with fail
            go_ret
            exact ⟨by simp, hbel⟩
        · rw [has_other L r f a b (fun h => hb1 h.1)]
          have hb1' : (a.toList == r.toList) = false := by simpa using hb1
          clear hb1
          go_wp2_with fail
          go_ret
          exact ⟨by simp, hbel⟩

set_option maxHeartbeats 800000 in
theorem after_none (ao0 ao1 : Option Addr) (n0 n1 c0 c1 : Nat) (r f a b : ByteArray) (w : World) (h0 : n0 ≤ 1024) (h1 : n1 ≤ 1024) (hz : n0 = 0 ∨ n1 = 0) :
    Calls Yba.prog 4 #[.slice ao0 n0 c0, .slice ao1 n1 c1, .string r, .string f, .string a, .string b] w fun e w' => e = .returned (.bool true) ∧ Below w.heap.size w w' := by
  have g0 : decide (1024 < (n0 : Int)) = false := by simp; omega
  have g1 : decide (1024 < (n1 : Int)) = false := by simp; omega
  have hst := Rec.start w
  have hmm : (n0 = 0 ∧ ¬ (n1 : Int) < n0) ∨ (n1 = 0 ∧ (n1 : Int) < n0) := by omega
  rcases hmm with ⟨rfl, hlt⟩ | ⟨rfl, hlt⟩
  all_goals
    go_enter Yba.func4, Yba.ntmps4
    go_wp2_with fail
    go_loopw [15] (fun i v => ∃ L, i = .int .i64 0 ∧ L.length ≤ 1999 ∧ Rec w w.heap.size L v) (fun _ _ => 0)
    case atStart => exact ⟨[], rfl, by simp, hst⟩
    case round =>
      obtain ⟨L, rfl, hl, hr⟩ := hrel
      clear hst
      go_wp2_with fail
      refine (has_any w _ w.heap.size L a b hr (by omega)).mono ?_
      rintro e v1 ⟨rfl, rfl⟩
      go_wp2_with fail
      refine (add_any w _ w.heap.size L r f hr (by omega)).mono ?_
      rintro e v2 ⟨rfl, hr2⟩
      have hl2 : (L ++ [(r, f)]).length ≤ 2000 := by simp; omega
      clear hr
      go_wp2_with fail
      refine (has_any w _ w.heap.size _ r f hr2 hl2).mono ?_
      rintro e v3 ⟨rfl, rfl⟩
      rw [has_added]
      go_wp2_with fail
      refine (has_any w _ w.heap.size _ a b hr2 hl2).mono ?_
      rintro e v4 ⟨rfl, rfl⟩
      have hbel := hr2.below
      clear hr2
      by_cases hb1 : a.toList = r.toList
      · by_cases hb2 : b.toList = f.toList
        · rw [has_same L r f a b hb1 hb2]
          have hb1' : (a.toList == r.toList) = true := by simpa using hb1
          have hb2' : (b.toList == f.toList) = true := by simpa using hb2
          clear hb1 hb2
          go_wp2_with fail
          go_ret
          exact ⟨rfl, hbel⟩
        · rw [has_other L r f a b (fun h => hb2 h.2)]
          have hb1' : (a.toList == r.toList) = true := by simpa using hb1
          have hb2' : (b.toList == f.toList) = false := by simpa using hb2
          clear hb1 hb2
          go_wp2_with fail
          go_ret
          exact ⟨by simp, hbel⟩
      · rw [has_other L r f a b (fun h => hb1 h.1)]
        have hb1' : (a.toList == r.toList) = false := by simpa using hb1
        clear hb1
        go_wp2_with fail
        go_ret
        exact ⟨by simp, hbel⟩
end Go.Proofs.Ybulkahhu
