/-
  The list as a message lists it: plain facts. Strings behind a slice. A buffer of the call's own.
-/
import Derived.Test.Qxb6616224aRows
import Derived.WalkKit
import Derived.WalkSpells
import Derived.WalkLawsBesides
import Derived.Deep.Light
import Derived.Lib.Join
import Derived.Lib.AppendStr
import Derived.Lib.UnsafeStr
import Derived.Laws.IdiomStrings
import Derived.OwnWalk
namespace Go.Proofs.Qxb6616224a
open Go.RowKit

/-! ### The plain law -/
/-- What stands ahead of element i of n. -/
def sepAt (n : Nat) (cj : List UInt8) (i : Nat) : List UInt8 := if i = 0 then [] else if i + 1 < n then [44, 32] else [32] ++ cj ++ [32]
/-- The text behind k rounds. -/
def upTo (n : Nat) (cj : List UInt8) (X : List (List UInt8)) : Nat → List UInt8
  | 0 => []
  | k + 1 => upTo n cj X k ++ (sepAt n cj k ++ X.getD k [])
/-- Enumerate's own text. -/
def enumT (X : List (List UInt8)) (cj : List UInt8) : List UInt8 :=
  if X.length = 1 then X.getD 0 [] else Lib.join (X.take (X.length - 1)) [44, 32] ++ [32] ++ cj ++ [32] ++ X.getD (X.length - 1) []

theorem join_snoc (xs : List (List UInt8)) (x sep : List UInt8) (h : xs ≠ []) : Lib.join (xs ++ [x]) sep = Lib.join xs sep ++ (sep ++ x) := by
  cases xs with
  | nil => exact absurd rfl h
  | cons a r =>
    rw [List.cons_append, Lib.join_cons, Lib.join_cons]
    simp [Lib.joinTail]

theorem upTo_join (n : Nat) (cj : List UInt8) (X : List (List UInt8)) (hn : n = X.length) : ∀ k, 0 < k → k + 1 ≤ n → upTo n cj X k = Lib.join (X.take k) [44, 32] := by
  intro k
  induction k with
  | zero => intro h; omega
  | succ k ih =>
    intro _ hk
    have hlt : k < X.length := by omega
    have htk : X.take (k + 1) = X.take k ++ [X.getD k []] := by
      rw [List.take_add_one, List.getElem?_eq_getElem hlt]
      simp [List.getD_eq_getElem?_getD, hlt]
    rw [upTo, htk]
    by_cases h0 : k = 0
    · subst h0
      simp [upTo, sepAt, Lib.join_one]
    · rw [ih (by omega) (by omega), join_snoc _ _ _ (by intro e; have := congrArg List.length e; rw [List.length_take, List.length_nil] at this; omega)]
      simp [sepAt, h0, show k + 1 < n by omega]

theorem upTo_all (cj : List UInt8) (X : List (List UInt8)) (h : 0 < X.length) : upTo X.length cj X X.length = enumT X cj := by
  obtain ⟨m, hm⟩ : ∃ m, X.length = m + 1 := ⟨X.length - 1, by omega⟩
  unfold enumT
  rw [hm]
  by_cases h0 : m = 0
  · subst h0
    simp [upTo, sepAt]
  · rw [if_neg (by omega), upTo, upTo_join (m + 1) cj X hm.symm m (by omega) (Nat.le_refl _)]
    simp [sepAt, h0]

/-- The strings are short and few. -/
def Small (X : List (List UInt8)) : Prop := X.length ≤ 1048576 ∧ ∀ i, (X.getD i []).length ≤ 1048576
theorem upTo_len (n : Nat) (cj : List UInt8) (X : List (List UInt8)) (hX : Small X) (hcj : cj.length ≤ 16) : ∀ k, (upTo n cj X k).length ≤ k * 1048600 := by
  intro k
  induction k with
  | zero => simp [upTo]
  | succ k ih =>
    have h1 := hX.2 k
    have h2 : (sepAt n cj k).length ≤ 18 := by unfold sepAt; split <;> (try split) <;> simp <;> omega
    rw [upTo, List.length_append, List.length_append]
    omega

/-! ### Strings behind a slice -/
def lists (xs : List ByteArray) : List (List UInt8) := xs.map (·.data.toList)
def StrsAt (w : World) (a : Option Addr) (xs : List ByteArray) : Prop :=
  ∀ i, i < xs.length → ∃ b off, a = some ⟨b, off, none⟩ ∧ b < w.heap.size ∧ w.cell? ⟨b, off + i, none⟩ = some (.string (xs.getD i ⟨#[]⟩))
theorem StrsAt.below {w w' : World} {a : Option Addr} {xs : List ByteArray} (h : StrsAt w a xs) (hb : Below w.heap.size w w') : StrsAt w' a xs := fun i hi => by
  obtain ⟨b, off, h1, h2, h3⟩ := h i hi
  exact ⟨b, off, h1, Nat.lt_of_lt_of_le h2 hb.size, by rw [hb.cell (by exact h2)]; exact h3⟩
theorem lists_len (xs : List ByteArray) : (lists xs).length = xs.length := by simp [lists]
theorem lists_getD (xs : List ByteArray) (i : Nat) : (lists xs).getD i [] = (xs.getD i ⟨#[]⟩).data.toList := by
  by_cases h : i < xs.length
  · simp [lists, List.getD_eq_getElem?_getD, h]
  · simp [lists, List.getD_eq_getElem?_getD, h]

/-! ### A buffer of the call's own -/
theorem Try.info5 : (Try.prog.info? 5).map (fun i => (i.zero, i.size, i.bytes)) = some (some (.int .u8 0), 1, 1) := by kernel_rfl

def Buf (W w : World) (v : Value) (l : List UInt8) : Prop := w.ownsRow W.heap.size 5 1 v l.length (Lib.byteCells l) ∧ Below W.heap.size W w
theorem Buf.start (W : World) : Buf W W (.slice none 0 0) [] := ⟨⟨rfl, .inl ⟨rfl, rfl⟩⟩, Below.refl _ _⟩
theorem Buf.below {W w : World} {v : Value} {l : List UInt8} (h : Buf W w v l) : Below W.heap.size W w := h.2
theorem own_block {W w : World} {v : Value} {n : Nat} {xs : List Value} (h : w.ownsRow W.heap.size 5 1 v n xs) : ∀ k, v.ownBlock = some k → W.heap.size ≤ k := by
  intro k hk
  rcases h.2 with ⟨e, _⟩ | ⟨g, cap, cur, e, hb, _⟩
  · rw [e] at hk; cases hk
  · rw [e] at hk; simp [Value.ownBlock] at hk; subst hk; exact hb
theorem Buf.grown {W w w' : World} {v v' : Value} {l l' : List UInt8} (h : Buf W w v l) (ho : w'.ownsRow W.heap.size 5 1 v' l'.length (Lib.byteCells l')) (hg : w.grownBy w' v.ownBlock) : Buf W w' v' l' :=
  ⟨ho, h.2.grown hg h.2.size (own_block h.1)⟩
theorem Buf.alloc {W w : World} {v : Value} {l : List UInt8} (h : Buf W w v l) (o : Obj) : Buf W (w.alloc o) v l :=
  ⟨h.1.alloc o, h.2.alloc h.2.size o⟩

/-- 'append(out, bytes)': the bytes lie in the block just laid. -/
theorem buf_bytes {ops : Array Oper} {rest : List Oper} {o : Oper} {a : Act} {Q : Exit → Act → World → Prop} (hgd : o.guard = none) (s x : Operand)
    (ho : o.op = .call { callee := .builtin .append, args := #[s, x], argTypes := #[32, 32] })
    (W w : World) (v : Value) (l bs : List UInt8) (arr : Array Value) (harr : arr.toList = Lib.byteCells bs) (hb : Buf W w v l) (hs : a.eval s = v)
    (hx : a.eval x = .slice (some ⟨w.heap.size, 0, none⟩) bs.length bs.length) (hlen : l.length + bs.length ≤ 140737488355328)
    (h : ∀ v' w', Buf W w' v' (l ++ bs) → wpList Try.prog ops Q rest (a.put o.dst v') w') : wpList Try.prog ops Q (o :: rest) a (w.alloc (.cells arr 5)) := by
  obtain ⟨i0, hi, hz0, hz1, hz2⟩ := info_parts Try.info5
  have hb' := hb.alloc (.cells arr 5)
  refine wpList_append_own _ hgd s x 32 ho W.heap.size 5 i0 (.int .u8 0) 1 1 Try.underlying32 hi hz0 hz1 hz2 rfl (by decide) v l.length _ hs hb'.1 ⟨w.heap.size, 0, none⟩ bs.length bs.length (Lib.byteCells bs) hx (by simp [Lib.byteCells_length]) ?_ ?_ (by unfold maxLen; omega) (by omega) hb'.2.size ?_
  · intro j u hj
    rw [Addr.add_lit, Nat.zero_add]
    rw [← harr] at hj
    rw [World.cell?_alloc_mark]
    simpa using hj
  · intro u hu
    simp [Lib.byteCells] at hu
    obtain ⟨b, _, rfl⟩ := hu
    rfl
  · intro v' w' ho' hg _
    refine h v' w' (hb'.grown ?_ hg)
    rw [List.length_append, Lib.byteCells_append]
    exact ho'
/-- 'append(out, text...)'. -/
theorem buf_text {ops : Array Oper} {rest : List Oper} {o : Oper} {a : Act} {Q : Exit → Act → World → Prop} (hgd : o.guard = none) (s x : Operand)
    (ho : o.op = .call { callee := .builtin .append, args := #[s, x], argTypes := #[32, 9] })
    (W w : World) (v : Value) (l : List UInt8) (t : ByteArray) (hb : Buf W w v l) (hs : a.eval s = v)
    (hx : a.eval x = .string t) (hlen : l.length + t.size ≤ 140737488355328)
    (h : ∀ v' w', Buf W w' v' (l ++ t.data.toList) → wpList Try.prog ops Q rest (a.put o.dst v') w') : wpList Try.prog ops Q (o :: rest) a w := by
  obtain ⟨i0, hi, hz0, hz1, hz2⟩ := info_parts Try.info5
  refine Lib.wpList_append_own_string _ hgd s x 32 9 ho W.heap.size 5 i0 Try.underlying32 Try.underlying9 hi hz0 hz1 hz2 v l.length _ hs hb.1 t hx (by unfold maxLen; omega) hlen hb.2.size ?_
  intro v' w' ho' hg _
  refine h v' w' (hb.grown ?_ hg)
  rw [List.length_append, Lib.byteCells_append]
  exact ho'
/-- 'string(out)'. -/
theorem buf_string {W w : World} {v : Value} {l : List UInt8} (hb : Buf W w v l) : (convert 32 9 v).run Try.prog w = .ok (.string ⟨l.toArray⟩) w := by
  rcases hb.1.2 with ⟨rfl, h0⟩ | ⟨g, cap, cur, rfl, _⟩
  · obtain rfl : l = [] := List.eq_nil_of_length_eq_zero h0
    rw [run_convert_bytes_string w 32 9 5 none 0 0 Try.underlying32 Try.underlying5 Try.underlying9]
    rfl
  · refine run_convert_bytes_back w 32 9 5 ⟨g, 0, none⟩ cap l Try.underlying32 Try.underlying5 Try.underlying9 ?_
    intro j hj
    rw [Addr.add_lit, Nat.zero_add, hb.1.cellAt j (by simpa using hj)]
    simp [Lib.byteCells, hj]
end Go.Proofs.Qxb6616224a
