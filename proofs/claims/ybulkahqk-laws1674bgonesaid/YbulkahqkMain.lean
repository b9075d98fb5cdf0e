import Derived.Test.YbulkahqkFill
namespace Go.Proofs.Ybulkahqk
open Go.RowKit Go.Maps
open Go.WideMaps (keyOf_string_mk)

set_option maxRecDepth 100000 in
set_option maxHeartbeats 1600000 in
theorem gone_some (b0 o0 c0 c1 : Nat) (ao1 : Option Addr) (xs : List ByteArray) (zs : List Int) (other : Bool) (w : World) (h0 : xs.length ≤ 1024) (p0 : 0 < xs.length) (hz : zs.length ≤ maxLen)
    (l0 : b0 < w.heap.size) (v0 : ∀ i (h : i < xs.length), w.cell? ⟨b0, o0 + i, none⟩ = some (.string xs[i])) (k0 : ∀ i (h : i < xs.length), xs[i].size ≤ maxLen) (hj : JView w ao1 zs) (hw : ∀ i, (Lit.int .i64 (vf zs i)).wf = true) :
    Calls Yba.prog 3 #[.slice (some ⟨b0, o0, none⟩) xs.length c0, .slice ao1 zs.length c1, .bool false, .bool other] w fun e w' => e = .returned (.bool true) ∧ Below w.heap.size w w' := by
  have g0 : decide (1024 < (xs.length : Int)) = false := by simp; omega
  have hst := Filled.start w xs zs
  have hmm := @run_makeMap Yba.prog
  go_enter Yba.func3, Yba.ntmps3
  go_wp2_with fail
  clear hmm
  go_loopw [10] (fun i v => ∃ k : Nat, k ≤ xs.length ∧ i = .int .i64 k ∧ Filled w xs zs k v) (fun i _ => xs.length - (intOf i).toNat)
  case atStart => exact ⟨0, Nat.zero_le _, rfl, hst⟩
  case round =>
    obtain ⟨k, hk, rfl, hf⟩ := hrel
    clear hst
    by_cases hlt : k < xs.length
    · have e0 := (hf.below.cell (p := ⟨b0, o0 + k, none⟩) l0).trans (v0 k hlt)
      have q0 : (k : Int) < xs.length := by omega
      have hv : IView wr.drew ao1 zs := hj.later hf.below.drew
      obtain ⟨w1, hrun, hf1⟩ := hf.step hlt (by omega) (k0 k hlt) (hw k)
      clear hw
      go_wp2_with fail
      go_region_with (go_at_call 4; refine (val_any ao1 c1 zs k _ hv hz (by omega)).mono ?_; rintro e v' ⟨rfl, rfl⟩)
      all_goals
        go_wp2_with fail
        go_roundw
        case rel => exact ⟨k + 1, by omega, by go_num, hf1⟩
        case measure => simp [intOf]; omega
    · have hkn : xs.length = k := by omega
      subst hkn
      obtain ⟨R, hR⟩ := built36
      obtain ⟨S, hS, s1, s2⟩ := built68 (some ⟨wr.heap.size, 0, none⟩) (some w.heap.size)
      obtain ⟨es, clock, hb⟩ := hf.block
      have hq := fun (w : World) (o : Option Nat) => run_eql_map_nil (P := Yba.prog) w 24 9 2 o Yba.underlying24
      have hlt' := hf.own.lt
      cases other
      · go_wp2_with (first | refine build_as rfl 36 #[] rfl R [] rfl hR ?_ | refine build_as rfl 68 #[(9, .tmp 47), (13, .tmp 48)] rfl S [(9, .pointer (some ⟨wr.heap.size, 0, none⟩)), (13, .map (some w.heap.size))] rfl hS ?_)
        refine (gone_own (wr.heap.size + 1) wr.heap.size w.heap.size es clock _ (cell_node wr R S 10 _ s1) (cell_node wr R S 14 _ s2) (by rw [Below.heap_alloc _ _ _ (by simp; omega), Below.heap_alloc _ _ _ hlt']; exact hb)).mono ?_
        rintro e v' ⟨rfl, rfl⟩
        have st := St.make hf R S es clock hb s2
        clear s1 s2 hS hR hb hlt' hf hlt hk
        go_wp2_with fail
        rw [show wr.heap.size + 2 = wr.heap.size + 1 + 1 from rfl] at st
        generalize wr.heap.size + 1 + 1 = B at st ⊢
        generalize wr.heap.size + 1 = nd at st ⊢
        generalize ((wr.alloc (.cells R 36)).alloc (.cells S 68)).alloc (.map es clock) = v2 at st ⊢
        clear hq
        go_loopw [15, 16] (fun t i v => ∃ k : Nat, k ≤ xs.length ∧ i = .int .i64 k ∧ t = .int .i64 (Maps.size (D xs zs k)) ∧ St w xs zs B nd v) (fun _ i _ => xs.length - (intOf i).toNat)
        case atStart => exact ⟨0, Nat.zero_le _, rfl, rfl, st⟩
        case round =>
          obtain ⟨k, hkn', rfl, rfl, hs⟩ := hrel
          clear st
          by_cases hkn : k < xs.length
          · have q0 : (k : Int) < xs.length := by omega
            have hsl := size_le xs zs k
            go_wp2_with fail
            go_loopw [17, 18] (fun f j v => ∃ m : Nat, m ≤ k ∧ j = .int .i64 m ∧ f = .bool true ∧ Hid (∀ i, i < m → ky xs i ≠ ky xs k) ∧ St w xs zs B nd v) (fun _ j _ => k - (intOf j).toNat)
            case atStart => exact ⟨0, Nat.zero_le _, rfl, rfl, fun i h => absurd h (by omega), hs⟩
            case round =>
              obtain ⟨p, hp, rfl, rfl, hno, hu⟩ := hrel
              clear hs
              by_cases hpk : p < k
              · have q1 : (p : Int) < k := by omega
                have q2 : (p : Int) < xs.length := by omega
                have e0 := (hu.below.cell (p := ⟨b0, o0 + p, none⟩) l0).trans (v0 p (by omega))
                have e1 := (hu.below.cell (p := ⟨b0, o0 + k, none⟩) l0).trans (v0 k hkn)
                have hpn : p < xs.length := by omega
                by_cases hEq : xs[p].toList = xs[k].toList
                · have hE : (xs[p].toList == xs[k].toList) = true := by simpa using hEq
                  have hsz : Maps.size (D xs zs (k + 1)) = Maps.size (D xs zs k) := size_old xs zs p k hpk (by rw [ky_at xs p hpn, ky_at xs k hkn]; exact key_inj.2 hEq)
                  clear hno hEq
                  go_wp2_with fail
                  go_quiet (fail)
                  replace hu := hu.drewN nq
                  go_wp2_with (go_at_call 4; refine (val_any ao1 c1 zs k _ (hj.later hu.below) hz (by omega)).mono ?_; rintro e v' ⟨rfl, rfl⟩)
                  go_loopw [19, 20] (fun t j v => ∃ m : Nat, k ≤ m ∧ m < xs.length ∧ j = .int .i64 m ∧ t = .int .i64 (vf zs k) ∧ Hid (∀ i, m < i → i < xs.length → ky xs i ≠ ky xs k) ∧ St w xs zs B nd v) (fun _ j _ => (intOf j).toNat)
                  case atStart => exact ⟨xs.length - 1, by omega, by omega, by go_num, rfl, fun i h1 h2 => absurd h2 (by omega), hu⟩
                  case round =>
                    obtain ⟨m, hm1, hm2, rfl, rfl, hlast, ht⟩ := hrel
                    clear hu
                    by_cases hkm : k < m
                    · have q3 : (m : Int) < xs.length := by omega
                      have q4 : (k : Int) < m := by omega
                      have e0 := (ht.below.cell (p := ⟨b0, o0 + m, none⟩) l0).trans (v0 m hm2)
                      have e1 := (ht.below.cell (p := ⟨b0, o0 + k, none⟩) l0).trans (v0 k hkn)
                      by_cases hEq : xs[m].toList = xs[k].toList
                      · have hE : (xs[m].toList == xs[k].toList) = true := by simpa using hEq
                        have hk2 : ky xs m = ky xs k := by rw [ky_at xs m hm2, ky_at xs k hkn]; exact key_inj.2 hEq
                        have hlk := fun n : Nat => (ht.drewN n).look k m hkn hm2 hk2 hlast.out (k0 k hkn)
                        have hv := fun n : Nat => hj.later (ht.drewN n).below
                        clear hEq hk2
                        go_wp2_with fail
                        go_quiet (fail)
                        go_wp2_with (go_at_call 4; refine (val_any ao1 c1 zs m _ (hv nq) hz (by omega)).mono ?_; rintro e v' ⟨rfl, rfl⟩)
                        go_roundw
                        case rel => exact ⟨k + 1, by omega, by go_num, by first | (rw [hsz]; done) | (rw [hsz]; go_num), ht.drewN nq⟩
                        case measure => simp [intOf]; omega
                      · have hE : (xs[m].toList == xs[k].toList) = false := by simpa using hEq
                        have hk2 : ky xs m ≠ ky xs k := by rw [ky_at xs m hm2, ky_at xs k hkn]; exact fun e => hEq (key_inj.1 e)
                        have hl2 : Hid (∀ i, m - 1 < i → i < xs.length → ky xs i ≠ ky xs k) := fun i h1 h2 => by
                          by_cases e : i = m
                          · subst e; exact hk2
                          · exact hlast.out i (by omega) h2
                        clear hEq hk2 hlast
                        go_wp2_with fail
                        go_quiet (fail)
                        go_wp2_with fail
                        go_roundw
                        case rel => exact ⟨m - 1, by omega, by omega, by go_num, rfl, hl2, ht.drewN nq⟩
                        case measure => simp [intOf]; omega
                    · have hmk : m = k := by omega
                      subst hmk
                      have hlk := ht.look m m hkn hkn rfl hlast.out (k0 m hkn)
                      have e1 := (ht.below.cell (p := ⟨b0, o0 + m, none⟩) l0).trans (v0 m hkn)
                      clear hlast
                      go_wp2_with fail
                      go_roundw
                      case rel => exact ⟨m + 1, by omega, by go_num, by first | (rw [hsz]; done) | (rw [hsz]; go_num), ht⟩
                      case measure => simp [intOf]; omega
                · have hE : (xs[p].toList == xs[k].toList) = false := by simpa using hEq
                  have hk2 : ky xs p ≠ ky xs k := by rw [ky_at xs p hpn, ky_at xs k hkn]; exact fun e => hEq (key_inj.1 e)
                  have hn2 : Hid (∀ i, i < p + 1 → ky xs i ≠ ky xs k) := fun i h1 => by
                    by_cases e : i = p
                    · subst e; exact hk2
                    · exact hno.out i (by omega)
                  clear hno hEq hk2
                  go_wp2_with fail
                  go_quiet (fail)
                  go_wp2_with fail
                  go_roundw
                  case rel => exact ⟨p + 1, by omega, by go_num, rfl, hn2, hu.drewN nq⟩
                  case measure => simp [intOf]; omega
              · have hpk' : p = k := by omega
                subst hpk'
                have hsz : Maps.size (D xs zs (p + 1)) = Maps.size (D xs zs p) + 1 := size_new xs zs p hno.out
                clear hno
                go_wp2_with (go_at_call 4; refine (val_any ao1 c1 zs p _ (hj.later hu.below) hz (by omega)).mono ?_; rintro e v' ⟨rfl, rfl⟩)
                go_loopw [19, 20] (fun t j v => ∃ m : Nat, p ≤ m ∧ m < xs.length ∧ j = .int .i64 m ∧ t = .int .i64 (vf zs p) ∧ Hid (∀ i, m < i → i < xs.length → ky xs i ≠ ky xs p) ∧ St w xs zs B nd v) (fun _ j _ => (intOf j).toNat)
                case atStart => exact ⟨xs.length - 1, by omega, by omega, by go_num, rfl, fun i h1 h2 => absurd h2 (by omega), hu⟩
                case round =>
                  obtain ⟨m, hm1, hm2, rfl, rfl, hlast, ht⟩ := hrel
                  clear hu
                  by_cases hkm : p < m
                  · have q3 : (m : Int) < xs.length := by omega
                    have q4 : (p : Int) < m := by omega
                    have e0 := (ht.below.cell (p := ⟨b0, o0 + m, none⟩) l0).trans (v0 m hm2)
                    have e1 := (ht.below.cell (p := ⟨b0, o0 + p, none⟩) l0).trans (v0 p hkn)
                    by_cases hEq : xs[m].toList = xs[p].toList
                    · have hE : (xs[m].toList == xs[p].toList) = true := by simpa using hEq
                      have hk2 : ky xs m = ky xs p := by rw [ky_at xs m hm2, ky_at xs p hkn]; exact key_inj.2 hEq
                      have hlk := fun n : Nat => (ht.drewN n).look p m hkn hm2 hk2 hlast.out (k0 p hkn)
                      have hv := fun n : Nat => hj.later (ht.drewN n).below
                      clear hEq hk2
                      go_wp2_with fail
                      go_quiet (fail)
                      go_wp2_with (go_at_call 4; refine (val_any ao1 c1 zs m _ (hv nq) hz (by omega)).mono ?_; rintro e v' ⟨rfl, rfl⟩)
                      go_roundw
                      case rel => exact ⟨p + 1, by omega, by go_num, by first | (rw [hsz]; done) | (rw [hsz]; go_num), ht.drewN nq⟩
                      case measure => simp [intOf]; omega
                    · have hE : (xs[m].toList == xs[p].toList) = false := by simpa using hEq
                      have hk2 : ky xs m ≠ ky xs p := by rw [ky_at xs m hm2, ky_at xs p hkn]; exact fun e => hEq (key_inj.1 e)
                      have hl2 : Hid (∀ i, m - 1 < i → i < xs.length → ky xs i ≠ ky xs p) := fun i h1 h2 => by
                        by_cases e : i = m
                        · subst e; exact hk2
                        · exact hlast.out i (by omega) h2
                      clear hEq hk2 hlast
                      go_wp2_with fail
                      go_quiet (fail)
                      go_wp2_with fail
                      go_roundw
                      case rel => exact ⟨m - 1, by omega, by omega, by go_num, rfl, hl2, ht.drewN nq⟩
                      case measure => simp [intOf]; omega
                  · have hmk : m = p := by omega
                    subst hmk
                    have hlk := ht.look m m hkn hkn rfl hlast.out (k0 m hkn)
                    have e1 := (ht.below.cell (p := ⟨b0, o0 + m, none⟩) l0).trans (v0 m hkn)
                    clear hlast
                    go_wp2_with fail
                    go_roundw
                    case rel => exact ⟨m + 1, by omega, by go_num, by first | (rw [hsz]; done) | (rw [hsz]; go_num), ht⟩
                    case measure => simp [intOf]; omega
          · have hkn2 : xs.length = k := by omega
            subst hkn2
            have hsl := size_le xs zs xs.length
            have e0 := (hs.below.cell (p := ⟨b0, o0, none⟩) l0).trans (v0 0 p0)
            have q0 : (0 : Int) < xs.length := by omega
            go_wp2_with (first | (at_len; refine wpList_len_own _ rfl _ 24 rfl 9 2 Yba.underlying24 _ B _ _ rfl hs.res ?_) | (at_delete; refine wpList_delete_own _ rfl _ _ 24 9 rfl 2 law Yba.underlying24 _ B _ _ rfl hs.res _ _ rfl (keyOf_string_mk Yba.underlying9 (k0 0 p0)) ?_; intro w1 hown1 hturn1))
            have dn := hs.dropped hturn1
            obtain ⟨c, hlk⟩ := dn.look p0 (k0 0 p0)
            have e1 := (dn.below.cell (p := ⟨b0, o0, none⟩) l0).trans (v0 0 p0)
            have hnd := dn.node
            clear hown1 hturn1 hs e0
            go_quiet (fail)
            go_wp2_with (at_len; refine wpList_len_own _ rfl _ 24 rfl 9 2 Yba.underlying24 _ w.heap.size _ _ rfl (dn.drewN nq).gone ?_)
            go_ret
            exact ⟨rfl, (dn.drewN nq).below⟩
      · go_wp2_with (first | refine build_as rfl 36 #[] rfl R [] rfl hR ?_ | refine build_as rfl 68 #[(9, .tmp 47), (13, .tmp 48)] rfl S [(9, .pointer (some ⟨wr.heap.size, 0, none⟩)), (13, .map (some w.heap.size))] rfl hS ?_)
        refine (gone_other (wr.heap.size + 1) wr.heap.size (wr.heap.size + 2) R R _ (by omega) (heap_other wr R S) (heap_group wr R S) (cell_node' wr R S 10 _ s1)).mono ?_
        rintro e v' ⟨rfl, rfl⟩
        have hbel := ((hf.below.alloc hf.below.size (.cells R 36)).alloc (by simp; omega) (.cells S 68)).alloc (by simp; omega) (.cells R 36)
        clear s1 s2 hS hR hb hlt' hf hlt hk
        go_wp2_with fail
        go_ret
        exact ⟨rfl, hbel⟩
end Go.Proofs.Ybulkahqk
