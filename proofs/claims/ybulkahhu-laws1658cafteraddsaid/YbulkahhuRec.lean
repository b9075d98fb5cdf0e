import Derived.Test.YbulkahhuRows
import Derived.WalkKit
import Derived.WalkSpells
import Derived.RowKit3
import Derived.Below
import Derived.OneCell
import Derived.Deep.RegionLaw
import Derived.Deep.AppendLies
namespace Go.Proofs.Ybulkahhu
open Go.RowKit

/-- The file's name in the law: the one byte f. -/
def fS : ByteArray := { data := #[102] }

/-- A recorded problem, as a block. -/
def prob (p : ByteArray × ByteArray) : Obj := .cells #[.string fS, .string p.1, .string p.2, .nilIface] 36 (0, 0)

def ptrTo (b : Nat) : Value := .pointer (some ⟨b, 0, none⟩)

/-- The Problems at block N: the list's value is 'lv', its elements point to the blocks 'bs', which hold the pairs L. -/
structure RecAt (W : World) (N : Nat) (L : List (ByteArray × ByteArray)) (v : World) (lv : Value) (bs : List Nat) : Prop where
  below : Below N W v
  head : v.heap[N]? = some (.cells #[.string fS, .nilFunc, lv] 27 (0, 0))
  own : v.ownsRow (N + 1) 34 1 lv L.length (bs.map ptrTo)
  len : bs.length = L.length
  lies : ∀ (i b : Nat) (p : ByteArray × ByteArray), bs[i]? = some b → L[i]? = some p → v.heap[b]? = some (prob p)

def Rec (W : World) (N : Nat) (L : List (ByteArray × ByteArray)) (v : World) : Prop := ∃ lv bs, RecAt W N L v lv bs

theorem RecAt.lt {W v : World} {N : Nat} {L : List (ByteArray × ByteArray)} {lv : Value} {bs : List Nat} (h : RecAt W N L v lv bs) : N < v.heap.size := lt_of_block h.head
theorem RecAt.far {W v : World} {N : Nat} {L : List (ByteArray × ByteArray)} {lv : Value} {bs : List Nat} (h : RecAt W N L v lv bs) : some N ≠ lv.ownBlock := by
  intro e
  have := (h.own.lt N e.symm).1
  omega
theorem RecAt.c0 {W v : World} {N : Nat} {L : List (ByteArray × ByteArray)} {lv : Value} {bs : List Nat} (h : RecAt W N L v lv bs) : v.cell? ⟨N, 0, none⟩ = some (.string fS) := by simp [World.cell?, h.head]
theorem RecAt.c2 {W v : World} {N : Nat} {L : List (ByteArray × ByteArray)} {lv : Value} {bs : List Nat} (h : RecAt W N L v lv bs) : v.cell? ⟨N, 2, none⟩ = some lv := by simp [World.cell?, h.head]

/-- What the append leaves: the receiver's block as it was. -/
theorem head_after {v w1 : World} {N : Nat} {lv : Value} {o1 o2 : Obj} (hN : N < v.heap.size) (hfar : some N ≠ lv.ownBlock) (hg : (((v.alloc o1).alloc o2).drew).grownBy w1 lv.ownBlock) : w1.heap[N]? = v.heap[N]? := by
  rw [hg.block N (by simp; omega) hfar]
  show ((v.alloc o1).alloc o2).heap[N]? = _
  rw [Below.heap_alloc _ _ _ (by simp; omega), Below.heap_alloc _ _ _ hN]

theorem info34 : (Yba.prog.info? 34).map (fun i => (i.zero, i.size, i.bytes)) = some (some (.pointer none), 1, 8) := by kernel_rfl

theorem news_at (v : World) (o1 : Obj) : ∀ (j : Nat) (u : Value), [ptrTo v.heap.size][j]? = some u → (((v.alloc o1).alloc (.cells #[.pointer (some ⟨v.heap.size, 0, none⟩)] 34)).drew).cell? ((⟨v.heap.size + 1, 0, none⟩ : Addr).add j) = some u := by
  have hb : (((v.alloc o1).alloc (.cells #[.pointer (some ⟨v.heap.size, 0, none⟩)] 34)).drew).heap[v.heap.size + 1]? = some (.cells #[ptrTo v.heap.size] 34 (0, 0)) := by
    have := (MapKept.heap_alloc (v.alloc o1) (.cells #[.pointer (some ⟨v.heap.size, 0, none⟩)] 34)).1
    rw [show (v.alloc o1).heap.size = v.heap.size + 1 by simp] at this
    exact this
  exact fun j u hu => World.news_of_block hb j u (by simpa using hu)

theorem one_at (b : Nat) : ∀ u ∈ [ptrTo b], u.oneCell' = true := by
  intro u hu
  simp at hu
  subst hu
  rfl

/-- The receiver's block behind the store. -/
theorem head_set {w1 : World} {N : Nat} {x y z u : Value} (h : w1.heap[N]? = some (.cells #[x, y, z] 27 (0, 0))) : (w1.setCell ⟨N, 2, none⟩ u).heap[N]? = some (.cells #[x, y, u] 27 (0, 0)) := by
  simp only [World.setCell, Array.getElem?_modify, h]
  simp

/-- WHAT 'Add' DOES TO THE RECORD. -/
theorem rec_add {W v w1 : World} {N : Nat} {L : List (ByteArray × ByteArray)} {lv : Value} {bs : List Nat} {r f : ByteArray} (h : RecAt W N L v lv bs) {g cap : Nat}
    (hown : w1.ownsRow (N + 1) 34 1 (.slice (some ⟨g, 0, none⟩) (L.length + 1) cap) (L.length + 1) (bs.map ptrTo ++ [ptrTo v.heap.size]))
    (hgrow : (((v.alloc (.cells #[.string fS, .string r, .string f, .nilIface] 36)).alloc (.cells #[.pointer (some ⟨v.heap.size, 0, none⟩)] 34)).drew).grownBy w1 lv.ownBlock) :
    Rec W N (L ++ [(r, f)]) (w1.setCell ⟨N, 2, none⟩ (.slice (some ⟨g, 0, none⟩) (L.length + 1) cap)) := by
  have hN := h.lt
  have hlen := h.len
  have hh := (head_after hN h.far hgrow).trans h.head
  have hg1 : N + 1 ≤ g := (hown.lt g rfl).1
  -- the row that is written is of type 34: no problem's block
  have hrow : ∀ b, some b = lv.ownBlock → ∃ cur, v.heap[b]? = some (.cells cur 34 (0, 0)) := by
    intro b hb
    rcases h.own.2 with ⟨e, _⟩ | ⟨g', cap', cur, e, _, hg', _⟩
    · rw [e] at hb; cases hb
    · rw [e] at hb
      obtain rfl : b = g' := by simpa [Value.ownBlock] using hb
      exact ⟨cur, hg'⟩
  have keep : ∀ (b : Nat) (p : ByteArray × ByteArray), v.heap[b]? = some (prob p) → w1.heap[b]? = some (prob p) := by
    intro b p hb
    have hlt := lt_of_block hb
    rw [hgrow.block b (by simp; omega) (fun e => by
      obtain ⟨cur, hc⟩ := hrow b e
      rw [hc] at hb
      simp [prob] at hb)]
    show ((v.alloc _).alloc _).heap[b]? = _
    rw [Below.heap_alloc _ _ _ (by simp; omega), Below.heap_alloc _ _ _ hlt]
    exact hb
  have hnew : w1.heap[v.heap.size]? = some (prob (r, f)) := by
    rw [hgrow.block v.heap.size (by simp; omega) (fun e => by
      have := (h.own.lt _ e.symm).2
      omega)]
    show ((v.alloc _).alloc _).heap[v.heap.size]? = _
    rw [Below.heap_alloc _ _ _ (by simp)]
    exact (MapKept.heap_alloc v _).1
  have notN : ∀ (b : Nat) (p : ByteArray × ByteArray), w1.heap[b]? = some (prob p) → b ≠ N := by
    rintro b p hb rfl
    rw [hh] at hb
    simp [prob] at hb
  refine ⟨_, bs ++ [v.heap.size], ?_, head_set hh, ?_, by simp [h.len], ?_⟩
  · have hb1 : Below N W w1 := (((h.below.alloc (Nat.le_of_lt hN) _).alloc (by simp; omega) _).drew).grown hgrow (by simp; omega) (fun k hk => by
      have := (h.own.lt k hk).1
      omega)
    exact hb1.setCell (Nat.le_refl _) _
  · have := ownsRow_setCell_below hown (a := ⟨N, 2, none⟩) (by simp) (.slice (some ⟨g, 0, none⟩) (L.length + 1) cap)
    simpa using this
  · intro i b p hb hp
    rw [Below.heap_setCell _ _ _ _ ?_]
    · by_cases hi : i < L.length
      · rw [List.getElem?_append_left (by omega)] at hb hp
        exact keep b p (h.lies i b p hb hp)
      · have hil : i = L.length := by
          have := (List.getElem?_eq_some_iff.1 hp).1
          simp at this
          omega
        subst hil
        rw [← h.len] at hb
        simp at hb hp
        subst hb hp
        exact hnew
    · by_cases hi : i < L.length
      · rw [List.getElem?_append_left (by omega)] at hb hp
        exact notN b p (keep b p (h.lies i b p hb hp))
      · have hil : i = L.length := by
          have := (List.getElem?_eq_some_iff.1 hp).1
          simp at this
          omega
        subst hil
        rw [← h.len] at hb
        simp at hb
        subst hb
        simp
        omega

set_option maxHeartbeats 800000 in
theorem add_any (W v : World) (N : Nat) (L : List (ByteArray × ByteArray)) (r f : ByteArray) (h : Rec W N L v) (hL : L.length ≤ 2000) :
    Calls Yba.prog 5 #[.pointer (some ⟨N, 0, none⟩), .string r, .string f, .nilIface] v fun e v' => e = .returned (.tuple #[]) ∧ Rec W N (L ++ [(r, f)]) v' := by
  obtain ⟨lv, bs, h⟩ := h
  have c0 := h.c0
  have c2 := h.c2
  have hN := h.lt
  have b1 : L.length + 1 ≤ maxLen := by unfold maxLen; omega
  obtain ⟨i0, hi, hz0, hz1, hz2⟩ := info_parts info34
  go_enter Yba.func5, Yba.ntmps5
  go_region_law (refine step_append_lies _ rfl (.tmp 12) (.tmp 22) 25 rfl (N + 1) 34 i0 (.pointer none) 1 8 Yba.underlying25 hi hz0 hz1 hz2 rfl (by decide) lv L.length (bs.map ptrTo) (by simp [Act.eval]) (by exact (((h.own.alloc _).alloc _).drew)) ⟨v.heap.size + 1, 0, none⟩ 1 1 [ptrTo v.heap.size] (by simp [Act.eval]) rfl (by exact news_at _ _) (one_at _) (by omega) b1 (by omega) (by simp; omega) _ rfl ?_; intro g cap w1 hown hgrow q1 q2; clear q1 q2; have hh := (head_after hN h.far hgrow).trans h.head; have k2 : w1.cell? ⟨N, 2, none⟩ = some lv := (by simp [World.cell?, hh]); have z2 : w1.frozen? ⟨N, 2, none⟩ = false := (by simp [World.frozen?, hh]); have R := rec_add h hown hgrow; clear hown hgrow hh)
  all_goals (go_end0; exact ⟨rfl, by assumption⟩)
end Go.Proofs.Ybulkahhu
