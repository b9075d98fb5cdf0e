import Derived.Test.YbulkahqkRows
import Derived.Test.YbulkahqkPlain
import Derived.WalkKit
import Derived.WalkSpells
import Derived.RowKit3
import Derived.Below
import Derived.Maps.Own
import Derived.Maps.OwnOps
import Derived.Maps.OwnSet
import Derived.LaidEqlPtr
import Derived.Shelf.SlMaps.Clone
namespace Go.Proofs.Ybulkahqk
open Go.RowKit Go.Maps

/-- WHAT THE WALKS ASK OF A LIST OF NUMBERS THAT CAME IN, in the world as it stands. -/
def IView (W : World) (ao : Option Addr) (zs : List Int) : Prop :=
  0 < zs.length → ∃ b off, ao = some ⟨b, off, none⟩ ∧ ∀ i, i < zs.length → W.cell? ⟨b, off + i, none⟩ = some (.int .i64 (zs.getD i 0))

set_option maxHeartbeats 400000 in
theorem val_any (ao : Option Addr) (c : Nat) (zs : List Int) (k : Nat) (v : World) (hv : IView v ao zs) (hz : zs.length ≤ maxLen) (hk : k ≤ 100000) :
    Calls Yba.prog 4 #[.slice ao zs.length c, .int .i64 k] v fun e v' => e = .returned (.int .i64 (vf zs k)) ∧ v' = v := by
  unfold maxLen at hz
  by_cases h : k < zs.length
  · obtain ⟨b, off, rfl, hc⟩ := hv (by omega)
    have h' : (k : Int) < zs.length := by omega
    have c0 : v.cell? ⟨b, off + k, none⟩ = some (.int .i64 (vf zs k)) := hc k h
    clear hc hv
    go_enter Yba.func4, Yba.ntmps4
    go_wp2
    go_ret
    exact ⟨rfl, rfl⟩
  · have h' : ¬ (k : Int) < zs.length := by omega
    have e : vf zs k = 0 := by unfold vf; rw [List.getD, List.getElem?_eq_none (by omega)]; rfl
    rw [e]
    go_enter Yba.func4, Yba.ntmps4
    go_wp2
    go_ret
    exact ⟨rfl, rfl⟩

set_option maxHeartbeats 800000 in
theorem clone_any (b : Nat) (es : Array MapEntry) (clock : Nat) (w : World) (hb : w.heap[b]? = some (.map es clock)) :
    Calls Yba.prog 6 #[.map (some b)] w fun e w' => e = .returned (.map (some w.heap.size)) ∧ w' = w.alloc (.map es clock) := by
  have hq := fun w => run_eql_map_nil (P := Yba.prog) w 24 9 2 (some b) Yba.underlying24
  have hcl : (callFunc 7 #[.iface 24 (.map (some b))]).run Yba.prog w = .ok (.value (.iface 24 (.map (some w.heap.size)))) (w.alloc (.map es clock)) := by
    rw [run_callFunc_extern Yba.func7 (by kernel_rfl) (by kernel_rfl) (by kernel_rfl) (e := Extern.MapsClone.clone) (by kernel_rfl), run_maps_clone_sl w 24 hb]
    rfl
  have hta := fun (w : World) (v : Value) => run_typeAssert_map_sl (P := Yba.prog) w 24 20 9 2 v Yba.underlying24
  go_enter Yba.func6, Yba.ntmps6
  go_wp2
  go_ret
  exact ⟨rfl, rfl⟩

theorem clone_nil (w : World) : Calls Yba.prog 6 #[.map none] w fun e w' => e = .returned (.map none) ∧ w' = w := by
  have hq := fun w => run_eql_map_nil (P := Yba.prog) w 24 9 2 none Yba.underlying24
  go_enter Yba.func6, Yba.ntmps6
  go_wp2
  go_ret
  exact ⟨rfl, rfl⟩

/-! ### '!=' between two pointers -/
theorem run_neq_same {P : Program} (w : World) {tp te : TypeId} {j : TypeInfo} (a : Addr) (hp : P.underlying tp = some (.pointer te)) (hte : P.info? te = some j) :
    (binOp .neq tp (.pointer (some a)) (.pointer (some a))).run P w = .ok (.bool false) w := by
  have h : ∀ d : Nat, (Op.equalIn (d + 1) tp (.pointer (some a)) (.pointer (some a))).run P w = .ok true w := fun d => by
    simp [Op.equalIn, run_underlying hp, sizeOf, typeInfo, hte, run_sameAddr_same]
  simp only [binOp]
  simp [Op.equal, Op.maxDepth, h 9999]
theorem run_neq_other {P : Program} (w : World) {tp te : TypeId} {j : TypeInfo} {a b : Addr} {ca cb : Array Value} {ta tb : TypeId} (hp : P.underlying tp = some (.pointer te)) (hte : P.info? te = some j) (hsz : j.size ≠ 0)
    (hne : a ≠ b) (ha : w.heap[a.block]? = some (.cells ca ta (0, 0))) (hb : w.heap[b.block]? = some (.cells cb tb (0, 0))) :
    (binOp .neq tp (.pointer (some a)) (.pointer (some b))).run P w = .ok (.bool true) w := by
  have h : ∀ d : Nat, (Op.equalIn (d + 1) tp (.pointer (some a)) (.pointer (some b))).run P w = .ok false w := fun d => by
    simp [Op.equalIn, run_underlying hp, sizeOf, typeInfo, hte, hsz, run_sameAddr_other w hne ha hb]
  simp only [binOp]
  simp [Op.equal, Op.maxDepth, h 9999]

theorem info36 : (Yba.prog.info? 36).map (fun i => decide (i.size = 0)) = some false := by kernel_rfl

/-- goneIn, asked of the node's own group. -/
theorem gone_own (nb gb b : Nat) (es : Array MapEntry) (clock : Nat) (v : World) (c1 : v.cell? ⟨nb, 10, none⟩ = some (.pointer (some ⟨gb, 0, none⟩))) (c2 : v.cell? ⟨nb, 14, none⟩ = some (.map (some b))) (hb : v.heap[b]? = some (.map es clock)) :
    Calls Yba.prog 5 #[.pointer (some ⟨nb, 0, none⟩), .pointer (some ⟨gb, 0, none⟩)] v fun e v' => e = .returned (.map (some v.heap.size)) ∧ v' = v.alloc (.map es clock) := by
  obtain ⟨j, hj, hsz⟩ := Option.map_eq_some_iff.1 info36
  have hq := run_neq_same (P := Yba.prog) v ⟨gb, 0, none⟩ Yba.underlying26 hj
  go_enter Yba.func5, Yba.ntmps5
  go_wp2_with (go_at_call 6; refine (clone_any b es clock _ hb).mono ?_; rintro e v' ⟨rfl, rfl⟩)
  go_ret
  exact ⟨rfl, rfl⟩

theorem gone_nil (nb gb : Nat) (v : World) (c1 : v.cell? ⟨nb, 10, none⟩ = some (.pointer (some ⟨gb, 0, none⟩))) (c2 : v.cell? ⟨nb, 14, none⟩ = some (.map none)) :
    Calls Yba.prog 5 #[.pointer (some ⟨nb, 0, none⟩), .pointer (some ⟨gb, 0, none⟩)] v fun e v' => e = .returned (.map none) ∧ v' = v := by
  obtain ⟨j, hj, hsz⟩ := Option.map_eq_some_iff.1 info36
  have hq := run_neq_same (P := Yba.prog) v ⟨gb, 0, none⟩ Yba.underlying26 hj
  go_enter Yba.func5, Yba.ntmps5
  go_wp2_with (go_at_call 6; refine (clone_nil _).mono ?_; rintro e v' ⟨rfl, rfl⟩)
  go_ret
  exact ⟨rfl, rfl⟩

theorem gone_other (nb gb ob : Nat) (ca cb : Array Value) (v : World) (hne : ob ≠ gb) (ho : v.heap[ob]? = some (.cells ca 36 (0, 0))) (hg : v.heap[gb]? = some (.cells cb 36 (0, 0))) (c1 : v.cell? ⟨nb, 10, none⟩ = some (.pointer (some ⟨gb, 0, none⟩))) :
    Calls Yba.prog 5 #[.pointer (some ⟨nb, 0, none⟩), .pointer (some ⟨ob, 0, none⟩)] v fun e v' => e = .returned (.map none) ∧ v' = v := by
  obtain ⟨j, hj, hsz⟩ := Option.map_eq_some_iff.1 info36
  have hq := run_neq_other (P := Yba.prog) v (a := ⟨ob, 0, none⟩) (b := ⟨gb, 0, none⟩) Yba.underlying26 hj (by simpa using hsz) (fun e => hne (congrArg Addr.block e)) ho hg
  clear ho hg hne
  go_enter Yba.func5, Yba.ntmps5
  go_wp2
  go_ret
  exact ⟨rfl, rfl⟩
end Go.Proofs.Ybulkahqk
