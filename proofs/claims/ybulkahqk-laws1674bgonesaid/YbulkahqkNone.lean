import Derived.Test.YbulkahqkFill
namespace Go.Proofs.Ybulkahqk
open Go.RowKit Go.Maps

set_option maxRecDepth 100000 in
set_option maxHeartbeats 1600000 in
/-- No key at all: of the slice's address nothing is known. -/
theorem gone_none (ao0 ao1 : Option Addr) (c0 n1 c1 : Nat) (other : Bool) (w : World) :
    Calls Yba.prog 3 #[.slice ao0 0 c0, .slice ao1 n1 c1, .bool false, .bool other] w fun e w' => e = .returned (.bool true) ∧ Below w.heap.size w w' := by
  have hst := Filled.start w [] []
  have hmm := @run_makeMap Yba.prog
  go_enter Yba.func3, Yba.ntmps3
  go_wp2_with fail
  clear hmm
  go_loopw [10] (fun i v => i = .int .i64 0 ∧ Filled w [] [] 0 v) (fun _ _ => 0)
  case atStart => exact ⟨rfl, hst⟩
  case round =>
    obtain ⟨rfl, hf⟩ := hrel
    clear hst
    obtain ⟨R, hR⟩ := built36
    obtain ⟨S, hS, s1, s2⟩ := built68 (some ⟨wr.heap.size, 0, none⟩) (some w.heap.size)
    obtain ⟨es, clock, hb⟩ := hf.block
    have hq := fun (w : World) (o : Option Nat) => run_eql_map_nil (P := Yba.prog) w 24 9 2 o Yba.underlying24
    have hlt' := hf.own.lt
    cases other
    · go_wp2_with (first | refine build_as rfl 36 #[] rfl R [] rfl hR ?_ | refine build_as rfl 68 #[(9, .tmp 47), (13, .tmp 48)] rfl S [(9, .pointer (some ⟨wr.heap.size, 0, none⟩)), (13, .map (some w.heap.size))] rfl hS ?_)
      refine (gone_own (wr.heap.size + 1) wr.heap.size w.heap.size es clock _ (cell_node wr R S 10 _ s1) (cell_node wr R S 14 _ s2) (by rw [Below.heap_alloc _ _ _ (by simp; omega), Below.heap_alloc _ _ _ hlt']; exact hb)).mono ?_
      rintro e v' ⟨rfl, rfl⟩
      have st := St.make (xs := []) hf R S es clock hb s2
      clear s1 s2 hS hR hb hlt' hf
      go_wp2_with fail
      rw [show wr.heap.size + 2 = wr.heap.size + 1 + 1 from rfl] at st
      generalize wr.heap.size + 1 + 1 = B at st ⊢
      generalize wr.heap.size + 1 = nd at st ⊢
      generalize ((wr.alloc (.cells R 36)).alloc (.cells S 68)).alloc (.map es clock) = v2 at st ⊢
      clear hq
      go_loopw [15, 16] (fun t i v => i = .int .i64 0 ∧ t = .int .i64 0 ∧ St w [] [] B nd v) (fun _ _ _ => 0)
      case atStart => exact ⟨rfl, rfl, st⟩
      case round =>
        obtain ⟨rfl, rfl, hs⟩ := hrel
        clear st
        have hz : Maps.size (D [] [] ([] : List ByteArray).length) = 0 := rfl
        go_wp2_with (at_len; refine wpList_len_own _ rfl _ 24 rfl 9 2 Yba.underlying24 _ B _ _ rfl hs.res ?_; rw [hz])
        go_ret
        exact ⟨rfl, hs.below⟩
    · go_wp2_with (first | refine build_as rfl 36 #[] rfl R [] rfl hR ?_ | refine build_as rfl 68 #[(9, .tmp 47), (13, .tmp 48)] rfl S [(9, .pointer (some ⟨wr.heap.size, 0, none⟩)), (13, .map (some w.heap.size))] rfl hS ?_)
      refine (gone_other (wr.heap.size + 1) wr.heap.size (wr.heap.size + 2) R R _ (by omega) (heap_other wr R S) (heap_group wr R S) (cell_node' wr R S 10 _ s1)).mono ?_
      rintro e v' ⟨rfl, rfl⟩
      have hbel := ((hf.below.alloc hf.below.size (.cells R 36)).alloc (by simp; omega) (.cells S 68)).alloc (by simp; omega) (.cells R 36)
      clear s1 s2 hS hR hb hlt' hf
      go_wp2_with fail
      go_ret
      exact ⟨rfl, hbel⟩
end Go.Proofs.Ybulkahqk
