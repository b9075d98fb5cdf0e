import Derived.Test.YbulkahhuHas
namespace Go.Proofs.Ybulkahhu
open Go.RowKit

/-- A new Problems with nothing recorded. -/
theorem Rec.start (w : World) : Rec w w.heap.size [] (w.alloc (.cells #[.string { data := #[102] }, .nilFunc, .slice none 0 0] 27)) := by
  refine ⟨.slice none 0 0, [], (Below.refl _ _).alloc (Nat.le_refl _) _, (MapKept.heap_alloc w _).1, World.ownsRow_nil _ _ _ _, rfl, ?_⟩
  intro i b p hb
  simp at hb

theorem Rec.below {W v : World} {N : Nat} {L : List (ByteArray × ByteArray)} (h : Rec W N L v) : Below N W v := by
  obtain ⟨lv, bs, h⟩ := h
  exact h.below

theorem take_zip (xs ys : List ByteArray) (k : Nat) (h0 : k < xs.length) (h1 : k < ys.length) : (xs.zip ys).take (k + 1) = (xs.zip ys).take k ++ [(xs[k], ys[k])] := by
  rw [List.take_succ_eq_append_getElem (by simp; omega)]
  simp

/-- One of the lists is too long. -/
theorem exact_long (ao0 ao1 : Option Addr) (n0 n1 c0 c1 : Nat) (qr qf : ByteArray) (sel : Int) (w : World) (h : 1024 < n0) :
    Calls Yba.prog 3 #[.slice ao0 n0 c0, .slice ao1 n1 c1, .string qr, .string qf, .int .u8 sel] w fun e w' => e = .returned (.bool true) ∧ Below w.heap.size w w' := by
  go_enter Yba.func3, Yba.ntmps3
  go_wp2_with fail
  go_ret
  exact ⟨rfl, Below.refl _ _⟩
theorem exact_long2 (ao0 ao1 : Option Addr) (n0 n1 c0 c1 : Nat) (qr qf : ByteArray) (sel : Int) (w : World) (h0 : n0 ≤ 1024) (h : 1024 < n1) :
    Calls Yba.prog 3 #[.slice ao0 n0 c0, .slice ao1 n1 c1, .string qr, .string qf, .int .u8 sel] w fun e w' => e = .returned (.bool true) ∧ Below w.heap.size w w' := by
  have h0' : decide (1024 < (n0 : Int)) = false := by simp; omega
  go_enter Yba.func3, Yba.ntmps3
  go_wp2_with fail
  go_ret
  exact ⟨rfl, Below.refl _ _⟩

set_option maxHeartbeats 1600000 in
theorem exact_some (b0 o0 b1 o1 c0 c1 : Nat) (xs ys : List ByteArray) (qr qf : ByteArray) (sel : Nat) (w : World) (hs : sel ≤ 255) (h0 : xs.length ≤ 1024) (h1 : ys.length ≤ 1024) (p0 : 0 < xs.length) (p1 : 0 < ys.length)
    (l0 : b0 < w.heap.size) (l1 : b1 < w.heap.size) (v0 : ∀ i (h : i < xs.length), w.cell? ⟨b0, o0 + i, none⟩ = some (.string xs[i])) (v1 : ∀ i (h : i < ys.length), w.cell? ⟨b1, o1 + i, none⟩ = some (.string ys[i])) :
    Calls Yba.prog 3 #[.slice (some ⟨b0, o0, none⟩) xs.length c0, .slice (some ⟨b1, o1, none⟩) ys.length c1, .string qr, .string qf, .int .u8 sel] w fun e w' => e = .returned (.bool true) ∧ Below w.heap.size w w' := by
  have g0 : decide (1024 < (xs.length : Int)) = false := by simp; omega
  have g1 : decide (1024 < (ys.length : Int)) = false := by simp; omega
  have hst := Rec.start w
  obtain ⟨m, hmz, hm0, hm1, hmp, hmm⟩ : ∃ m : Nat, Hid (m = (xs.zip ys).length) ∧ m ≤ xs.length ∧ m ≤ ys.length ∧ 0 < m ∧ (m = xs.length ∧ ¬ (ys.length : Int) < xs.length ∨ m = ys.length ∧ (ys.length : Int) < xs.length) :=
    ⟨min xs.length ys.length, by simp [Hid], by omega, by omega, by omega, by omega⟩
  rcases hmm with ⟨hme, hlt⟩ | ⟨hme, hlt⟩
  all_goals
    go_enter Yba.func3, Yba.ntmps3
    go_wp2_with fail
    rw [← hme]
    go_loopw [13] (fun i v => ∃ k : Nat, k ≤ m ∧ i = .int .i64 k ∧ Rec w w.heap.size ((xs.zip ys).take k) v) (fun i _ => m - (intOf i).toNat)
    case atStart => exact ⟨0, Nat.zero_le _, rfl, hst⟩
    case round =>
      obtain ⟨k, hk, rfl, hr⟩ := hrel
      clear hst hme hlt
      by_cases hkm : k < m
      · have e0 := (hr.below.cell (p := ⟨b0, o0 + k, none⟩) l0).trans (v0 k (by omega))
        have e1 := (hr.below.cell (p := ⟨b1, o1 + k, none⟩) l1).trans (v1 k (by omega))
        have q0 : (k : Int) < xs.length := by omega
        have q1 : (k : Int) < ys.length := by omega
        have q2 : (k : Int) < m := by omega
        have hl : ((xs.zip ys).take k).length ≤ 2000 := by simp; omega
        have ht := take_zip xs ys k (by omega) (by omega)
        have hrd : Rec w w.heap.size ((xs.zip ys).take k) wr.drew := by
          obtain ⟨lv, bs, a1, a2, a3, a4, a5⟩ := hr
          exact ⟨lv, bs, a1.drew, a2, a3, a4, a5⟩
        have hadd := add_any w _ w.heap.size _ xs[k] ys[k] hrd hl
        rw [← ht] at hadd
        clear ht hl hr hrd
        go_wp2_with fail
        go_region_with (go_at_call 5; refine hadd.mono ?_; rintro e v' ⟨rfl, hr'⟩)
        all_goals
          go_wp2_with fail
          go_roundw
          case rel => exact ⟨k + 1, by omega, by go_num, by assumption⟩
          case measure => simp [intOf]; omega
      · have hkm' : m = k := by omega
        subst hkm'
        rw [List.take_of_length_le (by rw [← hmz.out]; omega)] at hr
        have hl : (xs.zip ys).length ≤ 2000 := by rw [← hmz.out]; omega
        have hs0 : (0 : Int) ≤ sel := by omega
        have hs1 : (sel : Int) ≤ 255 := by omega
        have hp : ¬ (m : Int) = 0 := by omega
        have hp' : (0 : Int) < m := by omega
        by_cases hodd : sel % 2 = 1
        · have ho : ((sel : Int) % 2 == 1) = true := by rw [beq_iff_eq]; omega
          obtain ⟨t, ht, htm⟩ : ∃ t : Nat, (sel : Int) / 2 % (m : Int) = (t : Int) ∧ t < m := ⟨sel / 2 % m, by simp, Nat.mod_lt _ hmp⟩
          have q0 : (t : Int) < xs.length := by omega
          have q1 : (t : Int) < ys.length := by omega
          have q2 : (t : Int) < m := by omega
          have e0 := (hr.below.cell (p := ⟨b0, o0 + t, none⟩) l0).trans (v0 t (by omega))
          have e1 := (hr.below.cell (p := ⟨b1, o1 + t, none⟩) l1).trans (v1 t (by omega))
          go_wp2_with fail
          clear e0 e1
          generalize xs[t] = z1
          generalize ys[t] = z2
          go_loopw [15, 16] (fun t i v => ∃ k : Nat, k ≤ m ∧ t = .bool false ∧ i = .int .i64 k ∧ Rec w w.heap.size (xs.zip ys) v ∧ ((xs.zip ys).take k).any (hit z1 z2) = false) (fun _ i _ => m - (intOf i).toNat)
          case atStart => exact ⟨0, Nat.zero_le _, rfl, rfl, hr, by simp⟩
          case round =>
            obtain ⟨j, hj, rfl, rfl, hu, hno⟩ := hrel
            clear hr
            by_cases hjm : j < m
            · have e0 := (hu.below.cell (p := ⟨b0, o0 + j, none⟩) l0).trans (v0 j (by omega))
              have e1 := (hu.below.cell (p := ⟨b1, o1 + j, none⟩) l1).trans (v1 j (by omega))
              have q0 : (j : Int) < xs.length := by omega
              have q1 : (j : Int) < ys.length := by omega
              have q2 : (j : Int) < m := by omega
              have hz := hmz.out
              have hzj : (xs.zip ys)[j]'(by omega) = (xs[j], ys[j]) := by simp
              have HN : Hid (hit z1 z2 (xs[j], ys[j]) = false → ((xs.zip ys).take (j + 1)).any (hit z1 z2) = false) := fun hh => no_step _ _ _ j (by omega) hno (by rw [hzj]; exact hh)
              have HY : Hid (hit z1 z2 (xs[j], ys[j]) = true → has (xs.zip ys) z1 z2 = true) := fun hh => has_hit _ _ _ j (by omega) (by rw [hzj]; exact hh)
              clear hz hzj hno
              by_cases hb1 : xs[j].toList = z1.toList
              · by_cases hb2 : (ys[j].toList == z2.toList) = true
                · have hy := HY.out (hit_yes hb1 hb2)
                  clear HN HY
                  go_wp2_with (go_at_call 6; refine (has_any w _ w.heap.size _ z1 z2 hu hl).mono ?_; rintro e v' ⟨rfl, rfl⟩)
                  go_ret
                  exact ⟨rfl, hu.below⟩
                · have hb2' : (ys[j].toList == z2.toList) = false := by simpa using hb2
                  have hn := HN.out (hit_no2 hb2')
                  clear HN HY hb2
                  go_wp2_with fail
                  go_roundw
                  case rel => exact ⟨j + 1, by omega, rfl, by go_num, hu, hn⟩
                  case measure => simp [intOf]; omega
              · have hb1' : (xs[j].toList == z1.toList) = false := by simpa using hb1
                have hn := HN.out (hit_no1 hb1)
                clear HN HY
                go_wp2_with fail
                go_roundw
                case rel => exact ⟨j + 1, by omega, rfl, by go_num, hu, hn⟩
                case measure => simp [intOf]; omega
            · have hjm' : m = j := by omega
              subst hjm'
              have hfin : has (xs.zip ys) z1 z2 = false := by
                rw [List.take_of_length_le (by rw [← hmz.out]; omega)] at hno
                exact hno
              clear hno
              go_wp2_with (go_at_call 6; refine (has_any w _ w.heap.size _ z1 z2 hu hl).mono ?_; rintro e v' ⟨rfl, rfl⟩)
              go_ret
              exact ⟨rfl, hu.below⟩
        · have ho : ((sel : Int) % 2 == 1) = false := by rw [beq_eq_false_iff_ne]; omega
          go_wp2_with fail
          go_loopw [15, 16] (fun t i v => ∃ k : Nat, k ≤ m ∧ t = .bool false ∧ i = .int .i64 k ∧ Rec w w.heap.size (xs.zip ys) v ∧ ((xs.zip ys).take k).any (hit qr qf) = false) (fun _ i _ => m - (intOf i).toNat)
          case atStart => exact ⟨0, Nat.zero_le _, rfl, rfl, hr, by simp⟩
          case round =>
            obtain ⟨j, hj, rfl, rfl, hu, hno⟩ := hrel
            clear hr
            by_cases hjm : j < m
            · have e0 := (hu.below.cell (p := ⟨b0, o0 + j, none⟩) l0).trans (v0 j (by omega))
              have e1 := (hu.below.cell (p := ⟨b1, o1 + j, none⟩) l1).trans (v1 j (by omega))
              have q0 : (j : Int) < xs.length := by omega
              have q1 : (j : Int) < ys.length := by omega
              have q2 : (j : Int) < m := by omega
              have hz := hmz.out
              have hzj : (xs.zip ys)[j]'(by omega) = (xs[j], ys[j]) := by simp
              have HN : Hid (hit qr qf (xs[j], ys[j]) = false → ((xs.zip ys).take (j + 1)).any (hit qr qf) = false) := fun hh => no_step _ _ _ j (by omega) hno (by rw [hzj]; exact hh)
              have HY : Hid (hit qr qf (xs[j], ys[j]) = true → has (xs.zip ys) qr qf = true) := fun hh => has_hit _ _ _ j (by omega) (by rw [hzj]; exact hh)
              clear hz hzj hno
              by_cases hb1 : xs[j].toList = qr.toList
              · by_cases hb2 : (ys[j].toList == qf.toList) = true
                · have hy := HY.out (hit_yes hb1 hb2)
                  clear HN HY
                  go_wp2_with (go_at_call 6; refine (has_any w _ w.heap.size _ qr qf hu hl).mono ?_; rintro e v' ⟨rfl, rfl⟩)
                  go_ret
                  exact ⟨rfl, hu.below⟩
                · have hb2' : (ys[j].toList == qf.toList) = false := by simpa using hb2
                  have hn := HN.out (hit_no2 hb2')
                  clear HN HY hb2
                  go_wp2_with fail
                  go_roundw
                  case rel => exact ⟨j + 1, by omega, rfl, by go_num, hu, hn⟩
                  case measure => simp [intOf]; omega
              · have hb1' : (xs[j].toList == qr.toList) = false := by simpa using hb1
                have hn := HN.out (hit_no1 hb1)
                clear HN HY
                go_wp2_with fail
                go_roundw
                case rel => exact ⟨j + 1, by omega, rfl, by go_num, hu, hn⟩
                case measure => simp [intOf]; omega
            · have hjm' : m = j := by omega
              subst hjm'
              have hfin : has (xs.zip ys) qr qf = false := by
                rw [List.take_of_length_le (by rw [← hmz.out]; omega)] at hno
                exact hno
              clear hno
              go_wp2_with (go_at_call 6; refine (has_any w _ w.heap.size _ qr qf hu hl).mono ?_; rintro e v' ⟨rfl, rfl⟩)
              go_ret
              exact ⟨rfl, hu.below⟩

set_option maxHeartbeats 800000 in
theorem exact_none (ao0 ao1 : Option Addr) (n0 n1 c0 c1 : Nat) (qr qf : ByteArray) (sel : Nat) (w : World) (h0 : n0 ≤ 1024) (h1 : n1 ≤ 1024) (hz : n0 = 0 ∨ n1 = 0) :
    Calls Yba.prog 3 #[.slice ao0 n0 c0, .slice ao1 n1 c1, .string qr, .string qf, .int .u8 sel] w fun e w' => e = .returned (.bool true) ∧ Below w.heap.size w w' := by
  have g0 : decide (1024 < (n0 : Int)) = false := by simp; omega
  have g1 : decide (1024 < (n1 : Int)) = false := by simp; omega
  have hst := Rec.start w
  have hfin : has [] qr qf = false := rfl
  have hmm : (n0 = 0 ∧ ¬ (n1 : Int) < n0) ∨ (n1 = 0 ∧ (n1 : Int) < n0) := by omega
  rcases hmm with ⟨rfl, hlt⟩ | ⟨rfl, hlt⟩
  all_goals
    go_enter Yba.func3, Yba.ntmps3
    go_wp2_with fail
    go_loopw [13] (fun i v => i = .int .i64 0 ∧ Rec w w.heap.size [] v) (fun _ _ => 0)
    case atStart => exact ⟨rfl, hst⟩
    case round =>
      obtain ⟨rfl, hr⟩ := hrel
      clear hst
      go_wp2_with fail
      go_loopw [15, 16] (fun t i v => t = .bool false ∧ i = .int .i64 0 ∧ Rec w w.heap.size [] v) (fun _ _ _ => 0)
      case atStart => exact ⟨rfl, rfl, hr⟩
      case round =>
        obtain ⟨rfl, rfl, hu⟩ := hrel
        clear hr
        go_wp2_with (go_at_call 6; refine (has_any w _ w.heap.size _ qr qf hu (by simp)).mono ?_; rintro e v' ⟨rfl, rfl⟩)
        go_ret
        exact ⟨rfl, hu.below⟩
end Go.Proofs.Ybulkahhu
