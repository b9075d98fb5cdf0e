import Derived.Test.YbulkahqkFill
import Derived.ProofKit
import Derived.OpenShut
import Derived.SliceStrings
namespace Go.Proofs.Ybulkahqk
open Go.ChangeShapes Go.WideShapes Go.ChangeAt Go.RowKit

theorem own : ownKnob Yba.prog.godebug = none := by kernel_rfl
theorem cells9 : Yba.prog.cellsOf 9 = 1 := by kernel_rfl
theorem cells2 : Yba.prog.cellsOf 2 = 1 := by kernel_rfl
theorem laidOut : laidOutB Yba.prog = true := by kernel_rfl

theorem add_at (b off i : Nat) : (⟨b, off, none⟩ : Addr).add i = ⟨b, off + i, none⟩ := by unfold Addr.add; split <;> simp_all

/-- The block of an address at which a cell stands, and that the address has no spot. -/
theorem at_cell {W : World} {a : Addr} {x : Value} (h : W.cell? (a.add 0) = some x) : ∃ b off, a = ⟨b, off, none⟩ ∧ b < W.heap.size := by
  obtain ⟨_, _, hsh, _, hsp⟩ := World.shape?_of_cell? h
  obtain ⟨b, off, spot⟩ := a
  have hspot : spot = none := by
    cases spot with
    | none => rfl
    | some s => simp [Addr.add] at hsp
  subst hspot
  refine ⟨b, off, rfl, ?_⟩
  unfold World.shape? at hsh
  split at hsh
  · rename_i hb
    have := (Array.getElem?_eq_some_iff.1 hb).1
    simpa [Addr.add] using this
  · cases hsh

set_option maxRecDepth 100000 in
/-- The keys. -/
theorem keys_of {H : Type} {enc : TypeId × Value → H} {W : World} {base : Nat} {v : Value} {d : DataW H} {p : List MemPlace} (hok : Value.okWide Yba.prog W .any base 22 v)
    (h : DataW.Trod enc Yba.prog W 0 (fun _ => true) true 22 v d p) : ∃ (xs : List ByteArray) (ao : Option Addr) (cap : Nat), v = .slice ao xs.length cap ∧ (∀ i (h : i < xs.length), xs[i].size ≤ maxLen) ∧
      (0 < xs.length → ∃ b off, ao = some ⟨b, off, none⟩ ∧ b < W.heap.size ∧ ∀ i (h : i < xs.length), W.cell? ⟨b, off + i, none⟩ = some (.string xs[i])) := by
  obtain ⟨a0, len, cap, rfl⟩ := okWide_slice Yba.underlying22 hok
  obtain ⟨fuel, hf⟩ := h
  rcases open_strings Yba.underlying22 Yba.underlying9 cells9 hf with ⟨hcs, hx⟩ | ⟨a, len', cap', ss, hcs, _, hl, hm, hz, hx, hcell, hws⟩
  · simp [Value.cells] at hcs
    obtain ⟨rfl, rfl, rfl⟩ := hcs
    exact ⟨[], none, 0, rfl, fun i h => absurd h (by simp), fun h => absurd h (by simp)⟩
  · simp [Value.cells] at hcs
    obtain ⟨rfl, rfl, rfl⟩ := hcs
    have hssl : ss.length = cap := by simpa using hz
    have hlen : (ss.take len).length = len := by simp; omega
    refine ⟨ss.take len, some a, cap, by rw [hlen], fun i hi => hws _ (List.mem_of_mem_take (List.getElem_mem hi)), fun hp => ?_⟩
    obtain ⟨b, off, rfl, hb⟩ := at_cell (hcell 0 (by omega))
    refine ⟨b, off, rfl, hb, fun i hi => ?_⟩
    have := hcell i (by omega)
    rw [add_at] at this
    simpa [List.getD, show i < ss.length by omega] using this

set_option maxRecDepth 100000 in
/-- The values. -/
theorem vals_of {H : Type} {enc : TypeId × Value → H} {W : World} {base : Nat} {v : Value} {d : DataW H} {p : List MemPlace} (hok : Value.okWide Yba.prog W .any base 23 v)
    (h : DataW.Trod enc Yba.prog W 0 (fun _ => true) true 23 v d p) : ∃ (zs : List Int) (ao : Option Addr) (cap : Nat), v = .slice ao zs.length cap ∧ zs.length ≤ maxLen ∧ (∀ i, (Lit.int .i64 (vf zs i)).wf = true) ∧ JView W ao zs := by
  obtain ⟨a0, len, cap, rfl⟩ := okWide_slice Yba.underlying23 hok
  obtain ⟨fuel, hf⟩ := h
  rcases open_ints Yba.underlying23 Yba.underlying2 cells2 hf with ⟨hcs, hx⟩ | ⟨a, len', cap', ns, hcs, _, hl, hm, hz, hx, hcell, hwz⟩
  · simp [Value.cells] at hcs
    obtain ⟨rfl, rfl, rfl⟩ := hcs
    exact ⟨[], none, 0, rfl, by simp, fun i => by simp [vf]; decide, fun h => absurd h (by simp)⟩
  · simp [Value.cells] at hcs
    obtain ⟨rfl, rfl, rfl⟩ := hcs
    have hnl : ns.length = cap := by simpa using hz
    have hlen : (ns.take len).length = len := by simp; omega
    have hget : ∀ i, i < len → (ns.take len).getD i 0 = ns.getD i 0 := fun i hi => by simp [List.getD, hi]
    refine ⟨ns.take len, some a, cap, by rw [hlen], by rw [hlen]; exact Nat.le_trans hl hm, fun i => ?_, fun hp => ?_⟩
    · by_cases hi : i < len
      · unfold vf
        rw [hget i hi, List.getD, List.getElem?_eq_getElem (by omega)]
        exact hwz _ (List.getElem_mem _)
      · unfold vf
        rw [List.getD, List.getElem?_eq_none (by omega)]
        decide
    · obtain ⟨b, off, rfl, hb⟩ := at_cell (hcell 0 (by omega))
      refine ⟨b, off, rfl, hb, fun i hi => ?_⟩
      have := hcell i (by omega)
      rw [add_at] at this
      rw [hget i (by omega)]
      exact this
end Go.Proofs.Ybulkahqk
