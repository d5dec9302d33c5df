/-
  The distinct strings of a slice, plainly; strings behind a slice.
-/
import Derived.Test.Qxb6616426aRows
import Derived.WalkKit
import Derived.WalkSpells
import Derived.WalkLawsBesides
import Derived.Deep.Light
import Derived.Maps.Own
import Derived.Maps.OwnSet
import Derived.OwnWalk
namespace Go.Proofs.Qxb6616426a
open Go.RowKit

/-! ### Strings behind a slice -/
def StrsAt (w : World) (a : Option Addr) (xs : List ByteArray) : Prop :=
  ∀ i, i < xs.length → ∃ b off, a = some ⟨b, off, none⟩ ∧ b < w.heap.size ∧ w.cell? ⟨b, off + i, none⟩ = some (.string (xs.getD i ⟨#[]⟩))
theorem StrsAt.below {w w' : World} {a : Option Addr} {xs : List ByteArray} (h : StrsAt w a xs) (hb : Below w.heap.size w w') : StrsAt w' a xs := fun i hi => by
  obtain ⟨b, off, h1, h2, h3⟩ := h i hi
  exact ⟨b, off, h1, Nat.lt_of_lt_of_le h2 hb.size, by rw [hb.cell (by exact h2)]; exact h3⟩

/-! ### The distinct ones -/
def seen (xs : List ByteArray) (k : Nat) (x : ByteArray) : Prop := ∃ j, j < k ∧ xs.getD j ⟨#[]⟩ = x
open Classical in
noncomputable def firstB (xs : List ByteArray) (k : Nat) : Bool := decide (¬ seen xs k (xs.getD k ⟨#[]⟩))
open Classical in
theorem firstB_seen {xs : List ByteArray} {k : Nat} (h : seen xs k (xs.getD k ⟨#[]⟩)) : firstB xs k = false := decide_eq_false (not_not_intro h)
open Classical in
theorem firstB_new {xs : List ByteArray} {k : Nat} (h : ¬ seen xs k (xs.getD k ⟨#[]⟩)) : firstB xs k = true := decide_eq_true h
noncomputable def dist (xs : List ByteArray) : Nat → Nat
  | 0 => 0
  | k + 1 => dist xs k + (if firstB xs k then 1 else 0)
noncomputable def dists (xs : List ByteArray) : Nat := dist xs xs.length

theorem dist_le (xs : List ByteArray) : ∀ k, dist xs k ≤ k
  | 0 => Nat.le_refl _
  | k + 1 => by
    have := dist_le xs k
    unfold dist
    split <;> omega
theorem seen_append {xs : List ByteArray} {x y : ByteArray} {k : Nat} (hk : k ≤ xs.length) : seen (xs ++ [y]) k x ↔ seen xs k x := by
  constructor
  · rintro ⟨j, hj, h⟩
    refine ⟨j, hj, ?_⟩
    rw [← h]
    simp [List.getD_eq_getElem?_getD, List.getElem?_append_left (show j < xs.length by omega)]
  · rintro ⟨j, hj, h⟩
    refine ⟨j, hj, ?_⟩
    rw [← h]
    simp [List.getD_eq_getElem?_getD, List.getElem?_append_left (show j < xs.length by omega)]
theorem dist_append (xs : List ByteArray) (y : ByteArray) : ∀ k, k ≤ xs.length → dist (xs ++ [y]) k = dist xs k
  | 0, _ => rfl
  | k + 1, h => by
    have e : (xs ++ [y]).getD k ⟨#[]⟩ = xs.getD k ⟨#[]⟩ := by simp [List.getD_eq_getElem?_getD, List.getElem?_append_left (show k < xs.length by omega)]
    have ef : firstB (xs ++ [y]) k = firstB xs k := by
      unfold firstB
      rw [e]
      congr 1
      exact propext (not_congr (seen_append (by omega)))
    rw [dist, dist, dist_append xs y k (by omega), ef]
open Classical in
theorem dists_append (xs : List ByteArray) (y : ByteArray) : dists (xs ++ [y]) = dists xs + (if seen xs xs.length y then 0 else 1) := by
  unfold dists
  rw [List.length_append, List.length_singleton, dist, dist_append xs y _ (Nat.le_refl _)]
  congr 1
  have e : (xs ++ [y]).getD xs.length ⟨#[]⟩ = y := by simp [List.getD_eq_getElem?_getD]
  unfold firstB
  rw [e]
  by_cases h : seen xs xs.length y
  · rw [if_pos h, if_neg]
    simp [(seen_append (y := y) (x := y) (Nat.le_refl xs.length)).2 h]
  · rw [if_neg h, if_pos]
    simp [mt (seen_append (y := y) (x := y) (Nat.le_refl xs.length)).1 h]

/-! ### The set, as a datum -/
def keyLit (x : ByteArray) : Lit := .string x.data.toList
theorem keyLit_inj {x y : ByteArray} (h : keyLit x = keyLit y) : x = y := by
  apply ByteArray.ext
  apply Array.ext'
  injection h
def setD (xs : List ByteArray) : Nat → DataW Unit
  | 0 => .map []
  | k + 1 => (setD xs k).put (keyLit (xs.getD k ⟨#[]⟩)) (.agg [])
theorem isKey (x : ByteArray) : WideAt.IsKeyLit (keyLit x) := by
  unfold WideAt.IsKeyLit
  trivial
theorem setD_tidy (xs : List ByteArray) : ∀ k, Maps.Tidy (setD xs k)
  | 0 => Maps.tidy_empty
  | k + 1 => (setD_tidy xs k).put (isKey _) _
theorem setD_has (xs : List ByteArray) (x : ByteArray) : ∀ k, Maps.has (setD xs k) (keyLit x) = true ↔ seen xs k x
  | 0 => by
    constructor
    · intro h; simp [setD, Maps.has] at h
    · rintro ⟨j, hj, _⟩; omega
  | k + 1 => by
    by_cases e : xs.getD k ⟨#[]⟩ = x
    · constructor
      · intro _; exact ⟨k, by omega, e⟩
      · intro _
        rw [setD, e]
        exact Maps.has_put_same (setD_tidy xs k).isMap (isKey _) _
    · have hne : keyLit x ≠ keyLit (xs.getD k ⟨#[]⟩) := fun h => e (keyLit_inj h).symm
      rw [setD, Maps.has_put_other hne, setD_has xs x k]
      constructor
      · rintro ⟨j, hj, h⟩; exact ⟨j, by omega, h⟩
      · rintro ⟨j, hj, h⟩
        refine ⟨j, ?_, h⟩
        rcases Nat.lt_or_ge j k with h' | h'
        · exact h'
        · have : j = k := by omega
          subst this
          exact absurd h e
theorem setD_size (xs : List ByteArray) : ∀ k, Maps.size (setD xs k) = dist xs k
  | 0 => rfl
  | k + 1 => by
    rw [setD, Maps.size_put (setD_tidy xs k), setD_size xs k, dist]
    have h := setD_has xs (xs.getD k ⟨#[]⟩) k
    by_cases hs : seen xs k (xs.getD k ⟨#[]⟩)
    · rw [if_pos (h.2 hs), firstB_seen hs]
      rfl
    · rw [if_neg (fun e => hs (h.1 e)), firstB_new hs]
      rfl
end Go.Proofs.Qxb6616426a
