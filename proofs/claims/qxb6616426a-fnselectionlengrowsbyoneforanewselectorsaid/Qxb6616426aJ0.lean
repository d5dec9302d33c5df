/-
  THE WALK of the law.
-/
import Derived.Test.Qxb6616426aI9
namespace Go.Proofs.Qxb6616426a
open Go.RowKit

theorem zzsel_n (a b : Option Addr) (xs ys : List ByteArray) (n m D ca cb : Nat) (hn : xs.length = n) (hm : ys.length = m) (hD : dists xs + dists ys = D) (hx : n ≤ 1048577) (hy : m ≤ 1048577) (w : World) (hX : StrsAt w a xs) (hY : StrsAt w b ys) (hzx : ∀ i, (xs.getD i ⟨#[]⟩).size ≤ 1048576) (hzy : ∀ i, (ys.getD i ⟨#[]⟩).size ≤ 1048576) :
    Calls Try.prog 6 #[.slice a n ca, .slice b m cb] w fun e w' => e = .returned (.int .i64 (D : Int)) ∧ Below w.heap.size w w' := by
  subst hn hm hD
  exact zzsel_any a b xs ys ca cb hx hy w hX hY hzx hzy
theorem distinct_n (a : Option Addr) (xs : List ByteArray) (D cap : Nat) (hD : dists xs = D) (hn : xs.length ≤ 1048577) (w : World) (hS : StrsAt w a xs) :
    Calls Try.prog 9 #[.slice a xs.length cap] w fun x w' => x = .returned (.int .i64 (D : Int)) ∧ Below w.heap.size w w' := by
  subst hD
  exact distinct_any a xs cap hn w hS

theorem small_all {xs : List ByteArray} (h : ∀ j, j < xs.length → Sm (xs.getD j ⟨#[]⟩)) : ∀ i, (xs.getD i ⟨#[]⟩).size ≤ 1048576 := by
  intro i
  by_cases e : i < xs.length
  · exact h i e
  · rw [List.getD_eq_getElem?_getD, List.getElem?_eq_none (by omega)]
    exact Nat.zero_le _
theorem small_app {xs : List ByteArray} {y : ByteArray} (h : ∀ i, (xs.getD i ⟨#[]⟩).size ≤ 1048576) (hy : y.size ≤ 1048576) : ∀ i, ((xs ++ [y]).getD i ⟨#[]⟩).size ≤ 1048576 := by
  intro i
  by_cases e : i < xs.length
  · rw [getD_app e]; exact h i
  · by_cases e2 : i = xs.length
    · subst e2; rw [getD_last]; exact hy
    · rw [List.getD_eq_getElem?_getD, List.getElem?_eq_none (by simp; omega)]
      exact Nat.zero_le _
theorem dists_seen {xs : List ByteArray} {y : ByteArray} (h : seen xs xs.length y) : dists (xs ++ [y]) = dists xs := by
  rw [dists_append, if_pos h]
  rfl
theorem dists_new {xs : List ByteArray} {y : ByteArray} (h : ¬ seen xs xs.length y) : dists (xs ++ [y]) = dists xs + 1 := by
  rw [dists_append, if_neg h]
theorem dists_le (xs : List ByteArray) : dists xs ≤ xs.length := dist_le _ _
end Go.Proofs.Qxb6616426a
