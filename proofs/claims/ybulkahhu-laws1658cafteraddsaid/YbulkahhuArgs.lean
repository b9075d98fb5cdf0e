import Derived.Test.YbulkahhuRows
import Derived.WalkKit
import Derived.ProofKit
import Derived.OpenShut
import Derived.ShutString
import Derived.SliceStrings
namespace Go.Proofs.Ybulkahhu
open Go.ChangeShapes Go.WideShapes Go.ChangeAt Go.RowKit

theorem own : ownKnob Yba.prog.godebug = none := by kernel_rfl
theorem cells9 : Yba.prog.cellsOf 9 = 1 := by kernel_rfl
theorem laidOut : laidOutB Yba.prog = true := by kernel_rfl

/-- WHAT THE WALKS ASK OF A LIST OF STRINGS THAT CAME IN: its strings; where they lie, if there are any. -/
def View (W : World) (v : Value) (ss : List ByteArray) : Prop :=
  ∃ ao cap, v = .slice ao ss.length cap ∧ (0 < ss.length → ∃ b off, ao = some ⟨b, off, none⟩ ∧ b < W.heap.size ∧ ∀ i (h : i < ss.length), W.cell? ⟨b, off + i, none⟩ = some (.string ss[i]))

theorem view_of {H : Type} {enc : TypeId × Value → H} {W : World} {base : Nat} {v : Value} {d : DataW H} {p : List MemPlace} (hok : Value.okWide Yba.prog W .any base 22 v)
    (h : DataW.Trod enc Yba.prog W 0 (fun _ => true) true 22 v d p) : ∃ ss, View W v ss := by
  obtain ⟨a0, len, cap, rfl⟩ := okWide_slice Yba.underlying22 hok
  obtain ⟨fuel, hf⟩ := h
  rcases open_strings Yba.underlying22 Yba.underlying9 cells9 hf with ⟨hcs, hx⟩ | ⟨a, len', cap', ss, hcs, _, hl, hm, hz, hx, hcell, hws⟩
  · simp [Value.cells] at hcs
    obtain ⟨rfl, rfl, rfl⟩ := hcs
    exact ⟨[], none, 0, rfl, fun h => absurd h (by simp)⟩
  · simp [Value.cells] at hcs
    obtain ⟨rfl, rfl, rfl⟩ := hcs
    have hlen : (ss.take len).length = len := by simp at hz; simp; omega
    refine ⟨ss.take len, some a, cap, by rw [hlen], fun hp => ?_⟩
    have hssl : ss.length = cap := by simpa using hz
    have c0 := hcell 0 (by omega)
    obtain ⟨_, _, hsh, _, hsp⟩ := World.shape?_of_cell? c0
    obtain ⟨b, off, spot⟩ := a
    have hspot : spot = none := by
      cases spot with
      | none => rfl
      | some s => simp [Addr.add] at hsp
    subst hspot
    refine ⟨b, off, rfl, ?_, fun i hi => ?_⟩
    · unfold World.shape? at hsh
      split at hsh
      · rename_i hb
        have := (Array.getElem?_eq_some_iff.1 hb).1
        simpa [Addr.add] using this
      · cases hsh
    · have := hcell i (by omega)
      have hadd : (⟨b, off, none⟩ : Addr).add i = ⟨b, off + i, none⟩ := by unfold Addr.add; split <;> simp_all
      rw [hadd] at this
      simpa [List.getD, show i < ss.length by omega] using this
end Go.Proofs.Ybulkahhu
