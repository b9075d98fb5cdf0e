import Derived.Test.YbulkahqkArgs
import Derived.Test.YbulkahqkMain
import Derived.Test.YbulkahqkNone
namespace Go.Proofs.Ybulkahqk.lawS1674BGone
open Go.ChangeShapes Go.WideShapes Go.ChangeAt Go.RowKit

theorem walk (xs : List ByteArray) (zs : List Int) (ao0 ao1 : Option Addr) (c0 c1 : Nat) (nilGone other : Bool) (W : World) (k0 : ∀ i (h : i < xs.length), xs[i].size ≤ maxLen)
    (hx : 0 < xs.length → ∃ b off, ao0 = some ⟨b, off, none⟩ ∧ b < W.heap.size ∧ ∀ i (h : i < xs.length), W.cell? ⟨b, off + i, none⟩ = some (.string xs[i]))
    (hz : zs.length ≤ maxLen) (hw : ∀ i, (Lit.int .i64 (vf zs i)).wf = true) (hj : JView W ao1 zs) :
    Calls Yba.prog 3 #[.slice ao0 xs.length c0, .slice ao1 zs.length c1, .bool nilGone, .bool other] W fun e w' => e = .returned (.bool true) ∧ Below W.heap.size W w' := by
  by_cases h0 : xs.length ≤ 1024
  · cases nilGone with
    | true => exact gone_nilGone _ _ _ _ _ _ other W h0
    | false =>
      by_cases hp : 0 < xs.length
      · obtain ⟨b0, o0, rfl, l0, v0⟩ := hx hp
        exact gone_some b0 o0 c0 c1 ao1 xs zs other W h0 hp hz l0 v0 k0 hj hw
      · have e : xs.length = 0 := Nat.eq_zero_of_not_pos hp
        rw [e]
        exact gone_none _ _ _ _ _ other W
  · exact gone_long _ _ _ _ _ _ nilGone other W (Nat.lt_of_not_le h0)

set_option maxRecDepth 100000 in
theorem lifted (os : Os) (started : os.Started) (H : Type) (enc : TypeId × Value → H) :
    ReturnsInHanded {} Yba.checked os 3 .any (Rows.lawS1674BGoneSpec.pre6 enc Yba.prog Yba.f3 Rows.lawS1674BGoneRow.domain false) (Rows.lawS1674BGoneSpec.post enc Yba.prog Yba.f3 false true false false) := by
  refine returnsInHanded_of_change (C := Yba.checked) own started (by kernel_rfl) Yba.func3
    (ChangeSpec.witness6 (enc := enc) (C := Yba.checked) false ⟨#[], #[.slice none 0 0, .slice none 0 0, .bool false, .bool false], []⟩ 8 (by kernel_rfl) (by kernel_rfl) (by kernel_rfl) (by kernel_rfl)) ?_
  intro W base args ds gs before hval0 hW hcnd _
  have hval : ∀ (j : Nat) t v, Yba.f3.params[j]? = some t → args[j]? = some v → Value.okWide Yba.prog W .any base t v := hval0
  have hW' := hW
  obtain ⟨p, q, hA0, hV, rfl, hfz, hnd⟩ := hW
  have hA : DataW.TrodAll enc Yba.prog W 0 (fun _ => true) true Yba.f3.params.toList args.toList ds p := hA0
  rw [Yba.params3] at hA hval
  obtain ⟨v0, vs0, d0, ds0, p0, q0, hargs, rfl, rfl, h0, r0⟩ := trodAll_cons hA
  obtain ⟨v1, vs1, d1, ds1, p1, q1, rfl, rfl, rfl, h1, r1⟩ := trodAll_cons r0
  obtain ⟨v2, vs2, d2, ds2, p2, q2, rfl, rfl, rfl, h2, r2⟩ := trodAll_cons r1
  obtain ⟨v3, vs3, d3, ds3, p3, q3, rfl, rfl, rfl, h3, r3⟩ := trodAll_cons r2
  obtain ⟨rfl, rfl, rfl⟩ := trodAll_nil r3
  obtain rfl : args = #[v0, v1, v2, v3] := by cases args; simp_all
  obtain ⟨rfl, rfl⟩ := trodVars_none hV
  obtain ⟨xs, ao0, c0, rfl, k0, hx⟩ := keys_of (hval 0 22 v0 rfl rfl) h0
  obtain ⟨zs, ao1, c1, rfl, hz, hw, hj⟩ := vals_of (hval 1 23 v1 rfl rfl) h1
  obtain ⟨b2, rfl, rfl, rfl⟩ := open_bool Yba.underlying4 (hval 2 4 v2 rfl rfl) h2
  obtain ⟨b3, rfl, rfl, rfl⟩ := open_bool Yba.underlying4 (hval 3 4 v3 rfl rfl) h3
  clear hA0 hval0
  simp only [List.append_nil] at hW'
  refine (walk xs zs ao0 ao1 c0 c1 b2 b3 W k0 hx hz hw hj).mono fun e W' ⟨he, hb⟩ => ?_
  subst he
  have hlt : ∀ x ∈ p0 ++ p1, x.block < W.heap.size := fun x hx => by simpa using hW'.lt x (by simpa using hx)
  refine ⟨_, rfl, _, _, _, [], p0 ++ (p1 ++ []), [], hW', ?_, ?_, rfl, hb.frame _, fun h => by cases h⟩
  · exact trodAll_cons_mk (shut_bool Yba.underlying4 _) trodAll_mk0
  · refine trodAll_cons_mk ?_ (trodAll_cons_mk ?_ (trodAll_cons_mk (shut_bool Yba.underlying4 _) (trodAll_cons_mk (shut_bool Yba.underlying4 _) trodAll_mk0)))
    · exact Below.trod laidOut (by kernel_rfl) (of_decide_eq_true (by kernel_rfl)) h0 hb (fun x hx => hlt x (by simp [hx]))
    · exact Below.trod laidOut (by kernel_rfl) (of_decide_eq_true (by kernel_rfl)) h1 hb (fun x hx => hlt x (by simp [hx]))

theorem over : Rows.lawS1674BGoneRow.holds Yba.pinned (OpenSpec.ofChange Rows.lawS1674BGoneSpec) :=
  OpenClaim.holds_of_wide 3 Yba.f3 rfl rfl rfl rfl rfl rfl rfl ⟨rfl, rfl, rfl, rfl, rfl⟩ rfl rfl rfl rfl rfl (by kernel_rfl) Yba.func3 (by kernel_rfl)
    (of_decide_eq_true (by kernel_rfl)) (by unfold Func.isWrapper; first | (rw [if_pos (by decide +kernel)]; kernel_rfl) | (rw [if_neg (by decide +kernel)]; exact ⟨rfl, rfl⟩))
    (fun os started H enc _ => lifted os started H enc)

theorem proved : Rows.LawS1674BGoneSaid :=
  over
end Go.Proofs.Ybulkahqk.lawS1674BGone
