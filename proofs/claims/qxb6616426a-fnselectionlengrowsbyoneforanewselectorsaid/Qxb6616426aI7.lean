/-
  THE ROWS of zzPrefixLengths: a row of bools that the call made, and two rows of ints that grow side by side.
-/
import Derived.Test.Qxb6616426aI6
import Derived.Maps.AppendAt
namespace Go.Proofs.Qxb6616426a
open Go.RowKit

theorem Try.info3 : (Try.prog.info? 3).map (fun i => (i.zero, i.size, i.bytes)) = some (some (.int .i64 0), 1, 8) := by kernel_rfl
theorem Try.info4 : (Try.prog.info? 4).map (fun i => (i.zero, i.size, i.bytes)) = some (some (.bool false), 1, 1) := by kernel_rfl

/-- The row of bools at g. -/
def BoolRow (g n : Nat) (w : World) : Prop :=
  ∃ arr : Array Value, w.heap[g]? = some (.cells arr 4 (0, 0)) ∧ arr.size = n ∧ ∀ i, i < n → ∃ b : Bool, arr[i]? = some (.bool b)
theorem BoolRow.step {g n : Nat} {w : World} (h : BoolRow g n w) (k : Nat) (b : Bool) : BoolRow g n (w.setCell ⟨g, k, none⟩ (.bool b)) := by
  obtain ⟨arr, h1, h2, h3⟩ := h
  refine ⟨arr.setIfInBounds k (.bool b), blk_set h1 k _, by simp [h2], fun i hi => ?_⟩
  by_cases e : k = i
  · subst e
    exact ⟨b, by simp [h2, hi]⟩
  · rw [Array.getElem?_setIfInBounds, if_neg e]
    exact h3 i hi
theorem BoolRow.below {g n : Nat} {w w' : World} (h : BoolRow g n w) (hb : Below w.heap.size w w') : BoolRow g n w' := by
  obtain ⟨arr, h1, h2⟩ := h
  exact ⟨arr, by rw [hb.block g (blk_lt h1)]; exact h1, h2⟩
theorem BoolRow.cell {g n : Nat} {w : World} (h : BoolRow g n w) {k : Nat} (hk : k < n) : ∃ b : Bool, w.cell? ⟨g, k, none⟩ = some (.bool b) := by
  obtain ⟨arr, h1, _, h3⟩ := h
  obtain ⟨b, hb⟩ := h3 k hk
  exact ⟨b, by rw [blk_cell h1]; exact hb⟩
theorem BoolRow.free {g n : Nat} {w : World} (h : BoolRow g n w) (k : Nat) : w.frozen? ⟨g, k, none⟩ = false := by
  obtain ⟨arr, h1, _⟩ := h
  exact blk_free h1 k
theorem BoolRow.lt {g n : Nat} {w : World} (h : BoolRow g n w) : g < w.heap.size := by
  obtain ⟨arr, h1, _⟩ := h
  exact blk_lt h1

theorem make4 (n : Nat) (hn : n ≤ 1073741824) (w : World) :
    ∃ C : Array Value, BoolRow w.heap.size n (w.alloc (.cells C 4)) ∧ (Instr.makeSlice 36 (.int .i64 (n : Int)) (.int .i64 (n : Int))).run Try.prog w = .ok (.slice (some ⟨w.heap.size, 0, none⟩) n n) (w.alloc (.cells C 4)) := by
  obtain ⟨i0, hi, hz0, hz1, hz2⟩ := info_parts Try.info4
  refine ⟨madeCells #[.bool false] n, ⟨_, heap_alloc_new w _, by simp [size_madeCells], fun i hi => ⟨false, ?_⟩⟩, ?_⟩
  · have e := toList_madeCells_one (.bool false) n
    rw [← Array.getElem?_toList, e]
    simp [hi]
  · rw [run_make (P := Try.prog) w 36 4 i0 _ Try.underlying36 hi hz0 .i64 .i64 n n (by omega) (Int.le_refl _) (by rw [hz2]; omega) (by omega)]
    rw [hz1]
    simp [Value.cells]

def AllInt (xs : List Value) : Prop := ∀ j, j < xs.length → ∃ z, xs[j]? = some (.int .i64 z)
theorem AllInt.push {xs : List Value} (h : AllInt xs) (z : Int) : AllInt (xs ++ [.int .i64 z]) := by
  intro j hj
  by_cases e : j < xs.length
  · obtain ⟨y, hy⟩ := h j e
    exact ⟨y, by rw [List.getElem?_append_left e]; exact hy⟩
  · have : j = xs.length := by simp at hj; omega
    subst this
    exact ⟨z, by simp⟩
theorem int_one (z : Int) : ∀ u ∈ [Value.int .i64 z], u.oneCell' = true := by
  intro u hu
  simp at hu
  subst hu
  rfl

/-- No block holds both. -/
def Apart (u v : Value) : Prop := ∀ g, u.ownBlock = some g → v.ownBlock ≠ some g
theorem Apart.symm {u v : Value} (h : Apart u v) : Apart v u := fun g hv hu => h g hu hv

/-- Two rows of ints, of one length, apart. -/
structure Rows2 (B : Nat) (w : World) (u v : Value) (k : Nat) (xs ys : List Value) : Prop where
  ou : w.ownsRow B 3 1 u k xs
  ov : w.ownsRow B 3 1 v k ys
  ap : Apart u v
  ix : AllInt xs
  iy : AllInt ys

theorem other_kept {B : Nat} {w w1 : World} {o : Obj} {u v u' : Value} {k : Nat} {ys : List Value} (h2 : w.ownsRow B 3 1 v k ys) (hd : Apart u v) (hg : (w.alloc o).grownBy w1 u.ownBlock) (hb : u'.ownBlock = u.ownBlock ∨ u'.ownBlock = some (w.heap.size + 1)) :
    w1.ownsRow B 3 1 v k ys ∧ Apart u' v := by
  refine ⟨(h2.alloc o).kept hg ?_, ?_⟩
  · cases e : v.ownBlock with
    | none => exact .inl rfl
    | some g =>
      refine .inr fun h => ?_
      exact hd g h.symm e
  · intro g hu hv
    rcases hb with hb | hb
    · exact hd g (hb ▸ hu) hv
    · have h3 := (h2.lt g hv).2
      rw [hb] at hu
      have h4 : w.heap.size + 1 = g := Option.some.inj hu
      omega

theorem IntsAt.own {B : Nat} {w : World} {v : Value} {k : Nat} {xs : List Value} (h : w.ownsRow B 3 1 v k xs) (hx : AllInt xs) : IntsAt w v k := by
  have hl := h.1
  rcases h.2 with ⟨rfl, rfl⟩ | ⟨g, cap, cur, rfl, hb, hg, _⟩
  · exact ⟨none, 0, rfl, fun i hi => absurd hi (by omega)⟩
  · refine ⟨some ⟨g, 0, none⟩, cap, rfl, fun i hi => ?_⟩
    obtain ⟨z, hz⟩ := hx i (by omega)
    refine ⟨g, 0, z, rfl, blk_lt hg, ?_⟩
    have := h.cellAt i (by omega)
    rw [Nat.zero_add, this]
    exact hz
theorem Rows2.nil (B : Nat) (w : World) : Rows2 B w (.slice none 0 0) (.slice none 0 0) 0 [] [] :=
  ⟨⟨rfl, .inl ⟨rfl, rfl⟩⟩, ⟨rfl, .inl ⟨rfl, rfl⟩⟩, fun g hg => by simp [Value.ownBlock] at hg, fun j hj => absurd hj (by simp), fun j hj => absurd hj (by simp)⟩

end Go.Proofs.Qxb6616426a
