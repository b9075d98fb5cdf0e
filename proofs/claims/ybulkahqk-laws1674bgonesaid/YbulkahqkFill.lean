import Derived.Test.YbulkahqkGone
namespace Go.Proofs.Ybulkahqk
open Go.RowKit Go.Maps
open Go.WideMaps (keyOf_string_mk)

/-- A list of numbers that came in, in old memory. -/
def JView (W : World) (ao : Option Addr) (zs : List Int) : Prop :=
  0 < zs.length → ∃ b off, ao = some ⟨b, off, none⟩ ∧ b < W.heap.size ∧ ∀ i, i < zs.length → W.cell? ⟨b, off + i, none⟩ = some (.int .i64 (zs.getD i 0))
theorem JView.later {w v : World} {ao : Option Addr} {zs : List Int} (h : JView w ao zs) (hb : Below w.heap.size w v) : IView v ao zs := by
  intro hp
  obtain ⟨b, off, e, hlt, hc⟩ := h hp
  exact ⟨b, off, e, fun i hi => (hb.cell (p := ⟨b, off + i, none⟩) hlt).trans (hc i hi)⟩

/-- The map under way. -/
structure Filled (w : World) (xs : List ByteArray) (zs : List Int) (k : Nat) (v : World) : Prop where
  own : v.ownsMap Yba.prog 9 (plainElem Yba.prog 2) w.heap.size k (D xs zs k)
  below : Below w.heap.size w v

theorem Filled.start (w : World) (xs : List ByteArray) (zs : List Int) : Filled w xs zs 0 (w.alloc (.map #[] 0)) :=
  ⟨World.ownsMap_made _ _ _ _, (Below.refl _ _).alloc (Nat.le_refl _) _⟩

theorem Filled.step {w v : World} {xs : List ByteArray} {zs : List Int} {k : Nat} (h : Filled w xs zs k v) (hk : k < xs.length) (hn : k < 2000) (hs : xs[k].size ≤ maxLen) (hw : (Lit.int .i64 (vf zs k)).wf = true) :
    ∃ w1, (Instr.mapUpdate 24 (.map (some w.heap.size)) (.string xs[k]) (.int .i64 (vf zs k))).run Yba.prog v.drew = .ok () w1 ∧ Filled w xs zs (k + 1) w1 := by
  obtain ⟨w1, hrun, hown, hg⟩ := h.own.drew.update law Yba.underlying24 (by unfold maxLen; omega) (keyOf_string_mk Yba.underlying9 hs) (plainElem_int Yba.underlying2 hw)
  refine ⟨w1, hrun, ?_, h.below.drew.grown hg h.below.size (fun j hj => by cases hj; exact Nat.le_refl _)⟩
  rw [show D xs zs (k + 1) = (D xs zs k).put (ky xs k) (.lit (.int .i64 (vf zs k))) from rfl, ky_at xs k hk]
  exact hown

/-- BEHIND goneIn: the node's map, its copy at block B, the node's field. -/
structure St (w : World) (xs : List ByteArray) (zs : List Int) (B nd : Nat) (v : World) : Prop where
  gone : v.ownsMap Yba.prog 9 (plainElem Yba.prog 2) w.heap.size xs.length (D xs zs xs.length)
  res : v.ownsMap Yba.prog 9 (plainElem Yba.prog 2) B xs.length (D xs zs xs.length)
  node : v.cell? ⟨nd, 14, none⟩ = some (.map (some w.heap.size))
  below : Below w.heap.size w v
  apart : w.heap.size < B

theorem St.drewN {w v : World} {xs : List ByteArray} {zs : List Int} {B nd : Nat} (h : St w xs zs B nd v) (n : Nat) : St w xs zs B nd (v.drewN n) := by
  obtain ⟨a, b, c, d, e⟩ := h
  exact ⟨a, b, c, ⟨d.os, d.tape, d.output, d.size, d.block⟩, e⟩

/-- The node's map, as a block. -/
theorem Filled.block {w v : World} {xs : List ByteArray} {zs : List Int} {k : Nat} (h : Filled w xs zs k v) : ∃ es clock, v.heap[w.heap.size]? = some (.map es clock) := by
  obtain ⟨es, clock, hb, _⟩ := h.own
  exact ⟨es, clock, hb⟩

theorem St.make {w v : World} {xs : List ByteArray} {zs : List Int} (h : Filled w xs zs xs.length v) (R S : Array Value) (es : Array MapEntry) (clock : Nat) (hb : v.heap[w.heap.size]? = some (.map es clock)) (s2 : S[14]? = some (.map (some w.heap.size))) :
    St w xs zs (v.heap.size + 2) (v.heap.size + 1) (((v.alloc (.cells R 36)).alloc (.cells S 68)).alloc (.map es clock)) := by
  have hlt := h.own.lt
  refine ⟨((h.own.alloc _).alloc _).alloc _, ?_, ?_, ((h.below.alloc h.below.size _).alloc (by simp; omega) _).alloc (by simp; omega) _, by omega⟩
  · obtain ⟨es', clock', hb', F, hs, hD⟩ := h.own
    obtain ⟨rfl, rfl⟩ : es' = es ∧ clock' = clock := by
      rw [hb] at hb'
      simpa using hb'.symm
    have := (MapKept.heap_alloc ((v.alloc (.cells R 36)).alloc (.cells S 68)) (.map es' clock')).1
    rw [show ((v.alloc (.cells R 36)).alloc (.cells S 68)).heap.size = v.heap.size + 2 by simp] at this
    exact ⟨es', clock', this, F, hs, hD⟩
  · rw [World.cell?_alloc_past _ _ _ (by simp)]
    exact cell_node v R S 14 _ s2

/-- 'v, ok := res[keys[k]]': the value of the key's last place. -/
theorem St.look {w v : World} {xs : List ByteArray} {zs : List Int} {B nd : Nat} (h : St w xs zs B nd v) (k m : Nat) (hk : k < xs.length) (hm : m < xs.length) (hkm : ky xs m = ky xs k) (hlast : ∀ i, m < i → i < xs.length → ky xs i ≠ ky xs k)
    (hs : xs[k].size ≤ maxLen) : (Instr.lookup 24 (.map (some B)) (.string xs[k]) true).run Yba.prog v = .ok (.tuple #[.int .i64 (vf zs m), .bool true]) v := by
  obtain ⟨u, ps, hrun, hu⟩ := h.res.look_ok law Yba.underlying24 (zero2 v) (plainElem_int (H := Unit) Yba.underlying2 (q := .i64) (a := 0) (by decide)) (keyOf_string_mk Yba.underlying9 hs)
  have hkey : (Lit.string xs[k].data.toList) = ky xs m := by rw [hkm, ky_at xs k hk]; rfl
  rw [hkey] at hrun hu
  rw [at_last xs zs m _ xs.length hm (fun i h1 h2 => by rw [hkm]; exact hlast i h1 h2)] at hu
  obtain ⟨c, rfl, hc, _⟩ := plainElem_int_inv Yba.underlying2 hu
  have e : vf zs m = c := by simpa using congrArg Prod.fst hc
  rw [has_yes xs zs m xs.length hm] at hrun
  rw [e]
  exact hrun

/-- BEHIND 'delete(res, keys[0])'. -/
structure Dn (w : World) (xs : List ByteArray) (zs : List Int) (nd : Nat) (v : World) : Prop where
  gone : v.ownsMap Yba.prog 9 (plainElem Yba.prog 2) w.heap.size xs.length (D xs zs xs.length)
  node : v.cell? ⟨nd, 14, none⟩ = some (.map (some w.heap.size))
  below : Below w.heap.size w v
theorem Dn.drewN {w v : World} {xs : List ByteArray} {zs : List Int} {nd : Nat} (h : Dn w xs zs nd v) (n : Nat) : Dn w xs zs nd (v.drewN n) := by
  obtain ⟨a, c, d⟩ := h
  exact ⟨a, c, ⟨d.os, d.tape, d.output, d.size, d.block⟩⟩

theorem St.dropped {w v v1 : World} {xs : List ByteArray} {zs : List Int} {B nd : Nat} (h : St w xs zs B nd v) (ht : v.mapTurned v1 B) : Dn w xs zs nd v1 := by
  have hg := ht.grown
  have ha := h.apart
  have hnd : nd < v.heap.size := by
    obtain ⟨_, _, hsh, _, _⟩ := World.shape?_of_cell? h.node
    unfold World.shape? at hsh
    split at hsh
    · rename_i hb
      exact (Array.getElem?_eq_some_iff.1 hb).1
    · cases hsh
  have hne : nd ≠ B := by
    rintro rfl
    obtain ⟨es, clock, hb, _⟩ := h.res
    have := h.node
    simp [World.cell?, hb] at this
  refine ⟨h.gone.kept hg (by simp; omega), ?_, h.below.grown hg h.below.size (fun k hk => by cases hk; omega)⟩
  rw [World.cell?_of_block (w := v) (hg.block nd hnd (by simpa using hne))]
  exact h.node

/-- 'n.gone[keys[0]]': it is there. -/
theorem Dn.look {w v : World} {xs : List ByteArray} {zs : List Int} {nd : Nat} (h : Dn w xs zs nd v) (hk : 0 < xs.length) (hs : xs[0].size ≤ maxLen) :
    ∃ c : Int, ∀ n : Nat, (Instr.lookup 24 (.map (some w.heap.size)) (.string xs[0]) true).run Yba.prog (v.drewN n) = .ok (.tuple #[.int .i64 c, .bool true]) (v.drewN n) := by
  have hkey : (Lit.string xs[0].data.toList) = ky xs 0 := by rw [ky_at xs 0 hk]; rfl
  have hz : (Lit.int .i64 0).wf = true := by decide
  have each : ∀ n : Nat, ∃ c : Int, (Instr.lookup 24 (.map (some w.heap.size)) (.string xs[0]) true).run Yba.prog (v.drewN n) = .ok (.tuple #[.int .i64 c, .bool true]) (v.drewN n) ∧ (D xs zs xs.length).atKey (ky xs 0) (.lit (.int .i64 0)) = .lit (.int .i64 c) := by
    intro n
    obtain ⟨u, ps, hrun, hu⟩ := (h.drewN n).gone.look_ok law Yba.underlying24 (zero2 _) (plainElem_int (H := Unit) Yba.underlying2 hz) (keyOf_string_mk Yba.underlying9 hs)
    rw [hkey] at hrun hu
    obtain ⟨c, rfl, hc, _⟩ := plainElem_int_inv Yba.underlying2 hu
    rw [has_yes xs zs 0 xs.length hk] at hrun
    exact ⟨c, hrun, congrArg Prod.fst hc⟩
  obtain ⟨c, _, hc⟩ := each 0
  refine ⟨c, fun n => ?_⟩
  obtain ⟨c', hrun, hc'⟩ := each n
  have e : c' = c := by
    rw [hc] at hc'
    simpa using hc'.symm
  rw [← e]
  exact hrun

end Go.Proofs.Ybulkahqk
