import Derived.Maps.Views
import Derived.Lib.Strings
namespace Go.Proofs.Ybulkahqk
open Go.Maps (IsMap Tidy)

/-! ### THE PLAIN LAW: what the map holds after k rounds -/
def key (s : ByteArray) : Lit := .string s.data.toList
def vf (zs : List Int) (i : Nat) : Int := zs.getD i 0
def ky (xs : List ByteArray) (i : Nat) : Lit := key (xs.getD i ByteArray.empty)

/-- The map's datum after k rounds. -/
def D (xs : List ByteArray) (zs : List Int) : Nat → DataW Unit
  | 0 => .map []
  | k + 1 => (D xs zs k).put (ky xs k) (.lit (.int .i64 (vf zs k)))

theorem key_is (s : ByteArray) : WideAt.IsKeyLit (key s) := trivial

theorem tidy_D (xs : List ByteArray) (zs : List Int) : ∀ k, Tidy (D xs zs k)
  | 0 => Maps.tidy_empty
  | k + 1 => (tidy_D xs zs k).put (key_is _) _

theorem ky_at (xs : List ByteArray) (i : Nat) (h : i < xs.length) : ky xs i = key xs[i] := by
  simp [ky, List.getD, h]

theorem key_inj {a b : ByteArray} : key a = key b ↔ a.toList = b.toList := by
  simp only [key, Lit.string.injEq]
  rw [ByteArray.toList_eq, ByteArray.toList_eq]

theorem has_yes (xs : List ByteArray) (zs : List Int) (j : Nat) : ∀ k, j < k → Maps.has (D xs zs k) (ky xs j) = true
  | k + 1, h => by
    by_cases e : ky xs j = ky xs k
    · rw [e]
      exact Maps.has_put_same (tidy_D xs zs k).isMap (key_is _) _
    · show Maps.has ((D xs zs k).put _ _) _ = _
      rw [Maps.has_put_other e]
      have hne : j ≠ k := fun e' => e (by rw [e'])
      exact has_yes xs zs j k (by omega)

theorem has_no (xs : List ByteArray) (zs : List Int) (κ : Lit) : ∀ k, (∀ j, j < k → ky xs j ≠ κ) → Maps.has (D xs zs k) κ = false
  | 0, _ => rfl
  | k + 1, h => by
    show Maps.has ((D xs zs k).put _ _) _ = _
    rw [Maps.has_put_other (fun e => h k (by omega) e.symm)]
    exact has_no xs zs κ k (fun j hj => h j (by omega))

/-- At a key stands the value of its last place. -/
theorem at_last (xs : List ByteArray) (zs : List Int) (j : Nat) (z : DataW Unit) : ∀ k, j < k → (∀ i, j < i → i < k → ky xs i ≠ ky xs j) → (D xs zs k).atKey (ky xs j) z = .lit (.int .i64 (vf zs j))
  | k + 1, h, hno => by
    by_cases e : j = k
    · subst e
      exact Maps.atKey_put_same (tidy_D xs zs j).isMap (key_is _) _ _
    · show ((D xs zs k).put _ _).atKey _ _ = _
      rw [Maps.atKey_put_other (fun e' => hno k (by omega) (by omega) e'.symm)]
      exact at_last xs zs j z k (by omega) (fun i h1 h2 => hno i h1 (by omega))

theorem size_D (xs : List ByteArray) (zs : List Int) (k : Nat) : Maps.size (D xs zs (k + 1)) = if Maps.has (D xs zs k) (ky xs k) then Maps.size (D xs zs k) else Maps.size (D xs zs k) + 1 :=
  Maps.size_put (tidy_D xs zs k) _

theorem size_le (xs : List ByteArray) (zs : List Int) : ∀ k, Maps.size (D xs zs k) ≤ k
  | 0 => Nat.le_refl _
  | k + 1 => by
    rw [size_D]
    have := size_le xs zs k
    split <;> omega

/-- A key that was there already: nothing more. -/
theorem size_old (xs : List ByteArray) (zs : List Int) (j k : Nat) (hj : j < k) (h : ky xs j = ky xs k) : Maps.size (D xs zs (k + 1)) = Maps.size (D xs zs k) := by
  rw [size_D, if_pos (by rw [← h]; exact has_yes xs zs j k hj)]
theorem size_new (xs : List ByteArray) (zs : List Int) (k : Nat) (h : ∀ j, j < k → ky xs j ≠ ky xs k) : Maps.size (D xs zs (k + 1)) = Maps.size (D xs zs k) + 1 := by
  rw [size_D, if_neg (by rw [has_no xs zs _ k h]; simp)]
end Go.Proofs.Ybulkahqk
