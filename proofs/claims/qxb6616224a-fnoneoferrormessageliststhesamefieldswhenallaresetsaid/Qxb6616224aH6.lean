/-
  ZZMessageNamedAsIs, whole.
-/
import Derived.Test.Qxb6616224aH5
namespace Go.Proofs.Qxb6616224a
open Go.RowKit

theorem loop_len (s : ByteArray) : ∀ (n i : Nat) (r : List UInt8), s.size - i = n → (ByteArray.toList.loop s i r).length = r.length + n := by
  intro n
  induction n with
  | zero =>
    intro i r h
    rw [ByteArray.toList.loop, if_neg (by omega)]
    simp
  | succ n ih =>
    intro i r h
    rw [ByteArray.toList.loop, if_pos (by omega), ih (i + 1) _ (by omega)]
    simp
    omega
theorem toList_len (s : ByteArray) : s.toList.length = s.size := by
  have := loop_len s s.size 0 [] (by omega)
  rw [ByteArray.toList, this]
  simp
theorem not_empty {s : ByteArray} (h : ¬ s.data.toList = []) : s.toList.isEmpty = false := by
  have h1 : s.toList.length ≠ 0 := by
    rw [toList_len]
    intro e
    apply h
    apply List.eq_nil_of_length_eq_zero
    simpa using e
  cases hl : s.toList with
  | nil => rw [hl] at h1; exact absurd rfl h1
  | cons a r => rfl
theorem empty_of {s : ByteArray} (h : s.data.toList = []) : s = ⟨#[]⟩ := by
  apply ByteArray.ext
  apply Array.ext'
  exact h

/-- What the message says. -/
def msgT (X Y : List (List UInt8)) (wt : List UInt8) : List UInt8 :=
  if wt = [] then msg1 (enumT X tAnd.data.toList) else if Y.length = 0 then msg2 (enumT X tOr.data.toList) wt else msg3 (enumT Y tAnd.data.toList) wt (enumT X tAnd.data.toList)

theorem message_any (w : World) (p : Nat) (fa : Option Addr) (xs : List ByteArray) (fc : Nat) (wt : ByteArray) (hws : wt.size ≤ 1048576) (sa : Option Addr) (ys : List ByteArray) (sc : Nat) (h : ErrAt w p fa xs fc wt sa ys sc) (hx : Small (lists xs)) (h1 : 0 < xs.length) (hy : Small (lists ys)) :
    Calls Try.prog 9 #[.pointer (some ⟨p, 0, none⟩), .func (.func 10) #[] #[]] w fun e w' => ∃ E : ByteArray, e = .returned (.string E) ∧ E.size ≤ 4398046511104 ∧ Hid (E.data.toList = msgT (lists xs) (lists ys) wt.data.toList) ∧ Below w.heap.size w w' := by
  by_cases he : wt.data.toList = []
  · obtain rfl := empty_of he
    unfold msgT
    rw [if_pos he]
    exact message1 w p fa xs fc sa ys sc h hx h1
  · by_cases hs : ys.length = 0
    · unfold msgT
      rw [if_neg he, if_pos (by rw [lists_len]; exact hs)]
      exact message2 w p fa xs fc wt (not_empty he) hws sa ys sc hs h hx h1
    · unfold msgT
      rw [if_neg he, if_neg (by rw [lists_len]; exact hs)]
      exact message3 w p fa xs fc wt (not_empty he) hws sa ys sc (by omega) h hx h1 hy

set_option maxRecDepth 4000 in
theorem zz_any (w : World) (p : Nat) (fa : Option Addr) (xs : List ByteArray) (fc : Nat) (wt : ByteArray) (hws : wt.size ≤ 1048576) (sa : Option Addr) (ys : List ByteArray) (sc : Nat) (h : ErrAt w p fa xs fc wt sa ys sc) (hx : Small (lists xs)) (h1 : 0 < xs.length) (hy : Small (lists ys)) :
    Calls Try.prog 6 #[.pointer (some ⟨p, 0, none⟩)] w fun e w' => ∃ E : ByteArray, e = .returned (.string E) ∧ E.size ≤ 4398046511104 ∧ Hid (E.data.toList = msgT (lists xs) (lists ys) wt.data.toList) ∧ Below w.heap.size w w' := by
  go_enter Try.func6, Try.ntmps6
  go_wp2_with fail
  refine Calls.mono (message_any w p fa xs fc wt hws sa ys sc h hx h1 hy) ?_
  rintro e w' ⟨E, rfl, h2, h3, h4⟩
  go_wp2_with fail
  go_ret
  exact ⟨E, rfl, h2, h3, h4⟩

/-- listText, by its own list. -/
theorem listText_at (w W : World) (hB : Below w.heap.size w W) (a : Option Addr) (xs : List ByteArray) (cap : Nat) (cj : ByteArray) (hcj : cj.size ≤ 16) (h1 : 0 < xs.length) (hsm : Small (lists xs)) (hS : StrsAt w a xs) :
    Calls Try.prog 7 #[.slice a xs.length cap, .string cj] W fun e w' => ∃ T : ByteArray, e = .returned (.string T) ∧ T.size ≤ 1099559900800 ∧ Hid (T.data.toList = enumT (lists xs) cj.data.toList) ∧ Below w.heap.size w w' := by
  refine (listText_any a xs cap cj hcj hsm W (hS.below hB)).mono ?_
  rintro e w' ⟨rfl, h4⟩
  have hl := upTo_len xs.length cj.data.toList (lists xs) hsm (by simpa using hcj) xs.length
  have hn : xs.length ≤ 1048576 := by have := hsm.1; rw [lists_len] at this; exact this
  refine ⟨_, rfl, by rw [size_of_list]; omega, ?_, hB.trans (h4.mono hB.size)⟩
  have e := upTo_all cj.data.toList (lists xs) (by rw [lists_len]; exact h1)
  rw [lists_len] at e
  exact e
end Go.Proofs.Qxb6616224a
