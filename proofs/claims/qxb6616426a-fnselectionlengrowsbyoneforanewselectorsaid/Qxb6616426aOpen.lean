/-
  A slice of strings, opened.
-/
import Derived.Test.Qxb6616426aI0
import Derived.ProofKit
import Derived.Deep.Strs
namespace Go.Proofs.Qxb6616426a
open Go.ChangeShapes Go.WideShapes Go.RowKit Go.Deep

theorem open_strsAt {H : Type} {enc : TypeId × Value → H} {w : World} {base : Nat} {spare : Nat → Bool} {held : Bool} {fuel : Nat} {a : Option Addr} {len cap : Nat} {x : DataW H × List MemPlace} (h : DataW.trod enc Try.prog w base spare held fuel 22 [.slice a len cap] = some x) :
    ∃ xs : List ByteArray, xs.length = len ∧ len ≤ maxLen ∧ StrsAt w a xs := by
  rcases open_strs Try.underlying22 Try.underlying9 (by kernel_rfl) h with ⟨e, _⟩ | ⟨q, l, c, m, Sx, e, _, hl, hm, hmm, _, hx⟩
  · simp at e
    obtain ⟨rfl, rfl, rfl⟩ := e
    exact ⟨[], rfl, by decide, fun i hi => absurd hi (by simp)⟩
  · simp at e
    obtain ⟨rfl, rfl, rfl⟩ := e
    have hle : len ≤ m := by rw [hmm]; split <;> omega
    refine ⟨(List.range len).map Sx, by simp, by omega, fun i hi => ?_⟩
    simp at hi
    obtain ⟨h1, _⟩ := hx i (by omega)
    have hspot := World.cell?_spot (hx 0 (by omega)).1
    obtain ⟨b, o, spot⟩ := q
    have hs : spot = none := by simpa [Addr.add] using hspot
    subst hs
    rw [add_plain] at h1
    refine ⟨b, o, rfl, World.block_lt_of_cell? _ _ h1, ?_⟩
    rw [h1]
    simp [List.getD_eq_getElem?_getD, hi]
end Go.Proofs.Qxb6616426a
