import Derived.Test.YbulkahhuRec
namespace Go.Proofs.Ybulkahhu
open Go.RowKit

/-- Is the pair among the recorded ones? -/
def hit (r f : ByteArray) (p : ByteArray × ByteArray) : Bool := (p.1.toList == r.toList) && (p.2.toList == f.toList)
def has (L : List (ByteArray × ByteArray)) (r f : ByteArray) : Bool := L.any (hit r f)

theorem has_hit (L : List (ByteArray × ByteArray)) (r f : ByteArray) (k : Nat) (hk : k < L.length) (h : hit r f L[k] = true) : has L r f = true :=
  List.any_eq_true.2 ⟨L[k], List.getElem_mem hk, h⟩
theorem no_step (L : List (ByteArray × ByteArray)) (r f : ByteArray) (k : Nat) (hk : k < L.length) (h0 : (L.take k).any (hit r f) = false) (h : hit r f L[k] = false) : (L.take (k + 1)).any (hit r f) = false := by
  rw [List.take_succ_eq_append_getElem hk, List.any_append, h0]
  simp [h]
theorem hit_yes {r f : ByteArray} {p : ByteArray × ByteArray} (h1 : p.1.toList = r.toList) (h2 : (p.2.toList == f.toList) = true) : hit r f p = true := by
  simp only [hit, h1, h2]
  simp
theorem hit_no1 {r f : ByteArray} {p : ByteArray × ByteArray} (h1 : ¬ p.1.toList = r.toList) : hit r f p = false := by
  simp [hit, h1]
theorem hit_no2 {r f : ByteArray} {p : ByteArray × ByteArray} (h2 : (p.2.toList == f.toList) = false) : hit r f p = false := by
  simp [hit, h2]
theorem ret_bool {a b : Bool} (h : a = b) : Ending.returned (.bool a) = .returned (.bool b) := by rw [h]

/-- The slot of the k-th recorded problem. -/
theorem RecAt.slot {W v : World} {N : Nat} {L : List (ByteArray × ByteArray)} {bs : List Nat} {g cap : Nat} (h : RecAt W N L v (.slice (some ⟨g, 0, none⟩) L.length cap) bs) (k : Nat) (hk : k < L.length) :
    ∃ b, v.cell? ⟨g, k, none⟩ = some (.pointer (some ⟨b, 0, none⟩)) ∧ v.cell? ⟨b, 1, none⟩ = some (.string L[k].1) ∧ v.cell? ⟨b, 2, none⟩ = some (.string L[k].2) := by
  have hlen := h.len
  have hb : bs[k]? = some bs[k] := List.getElem?_eq_getElem (by omega)
  have hp : L[k]? = some L[k] := List.getElem?_eq_getElem hk
  have hl := h.lies k _ _ hb hp
  refine ⟨bs[k], ?_, by simp [World.cell?, hl, prob], by simp [World.cell?, hl, prob]⟩
  have := h.own.cells (g := g) rfl k (ptrTo bs[k]) (by simp [hb])
  have hadd : (⟨g, 0, none⟩ : Addr).add k = ⟨g, k, none⟩ := by unfold Addr.add; split <;> simp_all
  rw [hadd] at this
  exact this

set_option maxHeartbeats 800000 in
theorem has_any (W v : World) (N : Nat) (L : List (ByteArray × ByteArray)) (r f : ByteArray) (h : Rec W N L v) (hL : L.length ≤ 2000) :
    Calls Yba.prog 6 #[.pointer (some ⟨N, 0, none⟩), .string r, .string f] v fun e v' => e = .returned (.bool (has L r f)) ∧ v' = v := by
  obtain ⟨lv, bs, h⟩ := h
  have c2 := h.c2
  rcases h.own.2 with ⟨rfl, h0⟩ | ⟨g, cap, cur, rfl, hg1, hg2, hcap, hcap2, _⟩
  · have hnil : L = [] := List.eq_nil_of_length_eq_zero h0
    subst hnil
    go_enter Yba.func6, Yba.ntmps6
    go_wp2
    go_loop [14] (fun i => i = .int .i64 0) (fun _ => 0)
    case atStart => rfl
    case round =>
      subst hrel
      go_wp2
      go_ret
      exact ⟨rfl, rfl⟩
  · go_enter Yba.func6, Yba.ntmps6
    go_wp2
    go_loop [14] (fun i => ∃ k : Nat, k ≤ L.length ∧ i = .int .i64 k ∧ (L.take k).any (hit r f) = false) (fun i => L.length - (intOf i).toNat)
    case atStart => exact ⟨0, Nat.zero_le _, rfl, by simp⟩
    case round =>
      obtain ⟨k, hk, rfl, hno⟩ := hrel
      by_cases hlt : k < L.length
      · obtain ⟨b, d0, d1, d2⟩ := h.slot k hlt
        have hlt' : (k : Int) < L.length := by omega
        go_wp2
        · go_ret
          exact ⟨ret_bool (has_hit L r f k hlt (hit_yes (by assumption) (by assumption))).symm, rfl⟩
        · go_round
          case rel => exact ⟨k + 1, by omega, by go_num, no_step L r f k hlt hno (hit_no2 (by assumption))⟩
          case measure => simp [intOf]; omega
        · go_round
          case rel => exact ⟨k + 1, by omega, by go_num, no_step L r f k hlt hno (hit_no1 (by assumption))⟩
          case measure => simp [intOf]; omega
      · have hkl : k = L.length := by omega
        subst hkl
        have hfin : has L r f = false := by simpa [has] using hno
        clear hno
        go_wp2
        go_ret
        exact ⟨rfl, rfl⟩
end Go.Proofs.Ybulkahhu
