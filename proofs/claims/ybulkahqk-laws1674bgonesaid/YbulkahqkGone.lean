import Derived.Test.YbulkahqkParts
import Derived.Deep.QuietTactic
import Derived.BigQuiet
import Derived.Deep.RegionWith
namespace Go.Proofs.Ybulkahqk
open Go.RowKit Go.Maps

theorem law : Keyed Yba.prog 9 := string_keyed Yba.underlying9
theorem zero2 (w : World) : (zeroValue 2).run Yba.prog w = .ok (.int .i64 0) w := by kernel_rfl

theorem gone_long (ao0 ao1 : Option Addr) (n0 n1 c0 c1 : Nat) (nilGone other : Bool) (w : World) (h : 1024 < n0) :
    Calls Yba.prog 3 #[.slice ao0 n0 c0, .slice ao1 n1 c1, .bool nilGone, .bool other] w fun e w' => e = .returned (.bool true) ∧ Below w.heap.size w w' := by
  go_enter Yba.func3, Yba.ntmps3
  go_wp2_with fail
  go_ret
  exact ⟨rfl, Below.refl _ _⟩

/-! ### the two structs, as blocks of cells whose content is a letter -/
theorem built36 : ∃ cs, Yba.prog.built 36 [] = some cs := Option.isSome_iff_exists.1 (by kernel_rfl)
theorem built68 (x : Option Addr) (o : Option Nat) : ∃ cs, Yba.prog.built 68 [(9, .pointer x), (13, .map o)] = some cs ∧ cs[10]? = some (.pointer x) ∧ cs[14]? = some (.map o) := by
  obtain ⟨cs, h⟩ : ∃ cs, Yba.prog.built 68 [(9, .pointer x), (13, .map o)] = some cs := Option.isSome_iff_exists.1 (by kernel_rfl)
  have h1 : (Yba.prog.built 68 [(9, .pointer x), (13, .map o)]).bind (·[10]?) = some (.pointer x) := by kernel_rfl
  have h2 : (Yba.prog.built 68 [(9, .pointer x), (13, .map o)]).bind (·[14]?) = some (.map o) := by kernel_rfl
  rw [h] at h1 h2
  exact ⟨cs, h, h1, h2⟩

theorem build_as {P : Program} {ops : Array Oper} {rest : List Oper} {o : Oper} {a : Act} {w : World} {Q : Exit → Act → World → Prop} (hg : o.guard = none) (t : TypeId) (parts : Array (Nat × Operand)) (ho : o.op = .build t parts)
    (cells : Array Value) (l : List (Nat × Value)) (hl : (parts.toList.map fun p => (p.1, a.eval p.2)) = l) (hf : P.built t l = some cells)
    (h : wpList P ops Q rest (a.put o.dst (.agg cells)) w) : wpList P ops Q (o :: rest) a w := by
  have e : (parts.map fun (i, x) => (i, a.eval x)).toList = l := by rw [← hl]; simp
  refine wpList_build hg t parts ho (by rw [e, hf]; rfl) ?_
  rw [e, hf]
  exact h

/-! ### the blocks that the law lays: the group at M, the node at M + 1 (another replica at M + 2) -/
theorem cell_node (v : World) (R S : Array Value) (j : Nat) (x : Value) (h : S[j]? = some x) : ((v.alloc (.cells R 36)).alloc (.cells S 68)).cell? ⟨v.heap.size + 1, j, none⟩ = some x := by
  rw [← h]
  simp [go_sem]
theorem cell_node' (v : World) (R S : Array Value) (j : Nat) (x : Value) (h : S[j]? = some x) : (((v.alloc (.cells R 36)).alloc (.cells S 68)).alloc (.cells R 36)).cell? ⟨v.heap.size + 1, j, none⟩ = some x := by
  rw [World.cell?_alloc_past _ _ _ (by simp)]
  exact cell_node v R S j x h
theorem heap_group (v : World) (R S : Array Value) : (((v.alloc (.cells R 36)).alloc (.cells S 68)).alloc (.cells R 36)).heap[v.heap.size]? = some (.cells R 36 (0, 0)) := by
  rw [Below.heap_alloc _ _ _ (by simp; omega), Below.heap_alloc _ _ _ (by simp)]
  exact (MapKept.heap_alloc v _).1
theorem heap_other (v : World) (R S : Array Value) : (((v.alloc (.cells R 36)).alloc (.cells S 68)).alloc (.cells R 36)).heap[v.heap.size + 2]? = some (.cells R 36 (0, 0)) := by
  have := (MapKept.heap_alloc ((v.alloc (.cells R 36)).alloc (.cells S 68)) (.cells R 36)).1
  rw [show ((v.alloc (.cells R 36)).alloc (.cells S 68)).heap.size = v.heap.size + 2 by simp] at this
  exact this

set_option maxRecDepth 100000 in
set_option maxHeartbeats 800000 in
theorem gone_nilGone (ao0 ao1 : Option Addr) (n0 n1 c0 c1 : Nat) (other : Bool) (w : World) (h : n0 ≤ 1024) :
    Calls Yba.prog 3 #[.slice ao0 n0 c0, .slice ao1 n1 c1, .bool true, .bool other] w fun e w' => e = .returned (.bool true) ∧ Below w.heap.size w w' := by
  have g0 : decide (1024 < (n0 : Int)) = false := by simp; omega
  obtain ⟨R, hR⟩ := built36
  obtain ⟨S, hS, s1, s2⟩ := built68 (some ⟨w.heap.size, 0, none⟩) none
  cases other
  · go_enter Yba.func3, Yba.ntmps3
    go_wp2_with (first | refine build_as rfl 36 #[] rfl R [] rfl hR ?_ | refine build_as rfl 68 #[(9, .tmp 47), (13, .tmp 48)] rfl S [(9, .pointer (some ⟨w.heap.size, 0, none⟩)), (13, .map none)] rfl hS ?_)
    refine (gone_nil (w.heap.size + 1) w.heap.size _ (cell_node w R S 10 _ s1) (cell_node w R S 14 _ s2)).mono ?_
    rintro e v' ⟨rfl, rfl⟩
    have hq := fun w => run_eql_map_nil (P := Yba.prog) w 24 9 2 none Yba.underlying24
    go_wp2_with fail
    go_ret
    exact ⟨rfl, ((Below.refl _ _).alloc (Nat.le_refl _) _).alloc (by simp) _⟩
  · go_enter Yba.func3, Yba.ntmps3
    go_wp2_with (first | refine build_as rfl 36 #[] rfl R [] rfl hR ?_ | refine build_as rfl 68 #[(9, .tmp 47), (13, .tmp 48)] rfl S [(9, .pointer (some ⟨w.heap.size, 0, none⟩)), (13, .map none)] rfl hS ?_)
    refine (gone_other (w.heap.size + 1) w.heap.size (w.heap.size + 2) R R _ (by omega) (heap_other w R S) (heap_group w R S) (cell_node' w R S 10 _ s1)).mono ?_
    rintro e v' ⟨rfl, rfl⟩
    have hq := fun w => run_eql_map_nil (P := Yba.prog) w 24 9 2 none Yba.underlying24
    go_wp2_with fail
    go_ret
    exact ⟨rfl, (((Below.refl _ _).alloc (Nat.le_refl _) _).alloc (by simp) _).alloc (by simp; omega) _⟩
end Go.Proofs.Ybulkahqk
