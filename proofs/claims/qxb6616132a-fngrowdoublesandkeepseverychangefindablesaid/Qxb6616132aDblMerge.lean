/-
  THE MERGE, told by plain lists.
-/
import Derived.Test.Qxb6616132aDblNonzero
import Derived.Deep.DeepCutAuto
import Derived.Deep.CutBlock
import Derived.Deep.Light
namespace Go.Proofs.Qxb6616132a
open Go.RowKit

def leI (a b : Int) : Bool := decide (a ≤ b)
theorem leI_trans (a b c : Int) (h1 : leI a b = true) (h2 : leI b c = true) : leI a c = true := by
  simp only [leI, decide_eq_true_eq] at *; omega
theorem leI_total (a b : Int) : (leI a b || leI b a) = true := by
  simp only [leI, Bool.or_eq_true, decide_eq_true_eq]; omega

/-- Sorted upwards. -/
def UpU (l : List Int) : Prop := l.Pairwise (fun a b => leI a b = true)

theorem up_uniq (a b c : List Int) (h1 : UpU a) (h2 : UpU b) (p1 : a.Perm c) (p2 : b.Perm c) : a = b :=
  List.Perm.eq_of_pairwise (le := fun a b => leI a b = true) (fun x y _ _ h h' => by simp only [leI, decide_eq_true_eq] at h h'; omega) h1 h2 (p1.trans p2.symm)

/-- Where the merge stands. -/
structure MrgAt (n : Nat) (L H : List Int) (W wr : World) (i j : Nat) (xs : List Int) : Prop where
  hi : i ≤ L.length
  hj : j ≤ H.length
  len : xs.length = i + j
  own : OwnU wr W.heap.size (i + j) n xs
  eq : xs ++ List.merge (L.drop i) (H.drop j) leI = List.merge L H leI
  bel : Below W.heap.size W wr

theorem drop_get (l : List Int) (i : Nat) (h : i < l.length) : l.drop i = l.getD i 0 :: l.drop (i + 1) := by
  rw [← List.getElem_cons_drop h]
  simp [List.getD_eq_getElem?_getD, h]

theorem mrg_h {n : Nat} {L H : List Int} {W wr w1 : World} {i j : Nat} {xs : List Int} {o : Obj} {y : Int} (h : MrgAt n L H W wr i j xs) (hi : i < L.length) (hj : j < H.length) (hy : H.getD j 0 = y) (hlt : y < L.getD i 0)
    (hown : w1.ownsRow W.heap.size 39 1 (.slice (some ⟨W.heap.size, 0, none⟩) (i + j + 1) n) (i + j + 1) (xs.map (Value.int .u64) ++ [.int .u64 y])) (hg : (wr.alloc o).grownBy w1 (some W.heap.size)) :
    MrgAt n L H W w1 i (j + 1) (xs ++ [y]) := by
  refine ⟨h.hi, hj, by rw [List.length_append, h.len]; rfl, own_push hown, ?_, below_push h.bel h.bel.size hg (Nat.le_refl _)⟩
  rw [← h.eq, drop_get L i hi, drop_get H j hj, hy, List.cons_merge_cons, if_neg (by simp only [leI, decide_eq_true_eq]; omega), List.append_assoc]
  rfl
theorem mrg_l {n : Nat} {L H : List Int} {W wr w1 : World} {i j : Nat} {xs : List Int} {o : Obj} {x : Int} (h : MrgAt n L H W wr i j xs) (hi : i < L.length) (hj : j < H.length) (hx : L.getD i 0 = x) (hlt : ¬ H.getD j 0 < x)
    (hown : w1.ownsRow W.heap.size 39 1 (.slice (some ⟨W.heap.size, 0, none⟩) (i + j + 1) n) (i + j + 1) (xs.map (Value.int .u64) ++ [.int .u64 x])) (hg : (wr.alloc o).grownBy w1 (some W.heap.size)) :
    MrgAt n L H W w1 (i + 1) j (xs ++ [x]) := by
  have e : i + j + 1 = i + 1 + j := by omega
  rw [e] at hown
  have e' : i + 1 + j = i + j + 1 := by omega
  refine ⟨hi, h.hj, by rw [List.length_append, h.len]; simp; omega, ?_, ?_, below_push h.bel h.bel.size hg (Nat.le_refl _)⟩
  · rw [e'] at hown ⊢; exact own_push hown
  · rw [← h.eq, drop_get L i hi, drop_get H j hj, hx, List.cons_merge_cons, if_pos (by simp only [leI, decide_eq_true_eq]; omega), List.append_assoc]
    rfl
theorem mrg_tl {n : Nat} {L H : List Int} {W wr w1 : World} {i j : Nat} {xs : List Int} {o : Obj} {x : Int} (h : MrgAt n L H W wr i j xs) (hi : i < L.length) (hj : H.length ≤ j) (hx : L.getD i 0 = x)
    (hown : w1.ownsRow W.heap.size 39 1 (.slice (some ⟨W.heap.size, 0, none⟩) (i + j + 1) n) (i + j + 1) (xs.map (Value.int .u64) ++ [.int .u64 x])) (hg : (wr.alloc o).grownBy w1 (some W.heap.size)) :
    MrgAt n L H W w1 (i + 1) j (xs ++ [x]) := by
  have e' : i + 1 + j = i + j + 1 := by omega
  refine ⟨hi, h.hj, by rw [List.length_append, h.len]; simp; omega, ?_, ?_, below_push h.bel h.bel.size hg (Nat.le_refl _)⟩
  · rw [e']; exact own_push hown
  · rw [← h.eq, List.drop_of_length_le hj, List.merge_right, List.merge_right, drop_get L i hi, hx, List.append_assoc]
    rfl
theorem mrg_th {n : Nat} {L H : List Int} {W wr w1 : World} {i j : Nat} {xs : List Int} {o : Obj} {y : Int} (h : MrgAt n L H W wr i j xs) (hi : L.length ≤ i) (hj : j < H.length) (hy : H.getD j 0 = y)
    (hown : w1.ownsRow W.heap.size 39 1 (.slice (some ⟨W.heap.size, 0, none⟩) (i + j + 1) n) (i + j + 1) (xs.map (Value.int .u64) ++ [.int .u64 y])) (hg : (wr.alloc o).grownBy w1 (some W.heap.size)) :
    MrgAt n L H W w1 i (j + 1) (xs ++ [y]) := by
  refine ⟨h.hi, hj, by rw [List.length_append, h.len]; rfl, own_push hown, ?_, below_push h.bel h.bel.size hg (Nat.le_refl _)⟩
  rw [← h.eq, List.drop_of_length_le hi, List.nil_merge, List.nil_merge, drop_get H j hj, hy, List.append_assoc]
  rfl
theorem mrg_end {n : Nat} {L H : List Int} {W wr : World} {i j : Nat} {xs : List Int} (h : MrgAt n L H W wr i j xs) (hi : L.length ≤ i) (hj : H.length ≤ j) : xs = List.merge L H leI := by
  have := h.eq
  rw [List.drop_of_length_le hi, List.drop_of_length_le hj, List.nil_merge, List.append_nil] at this
  exact this
theorem MrgAt.drewN {n : Nat} {L H : List Int} {W wr : World} {i j : Nat} {xs : List Int} (h : MrgAt n L H W wr i j xs) (d : Nat) : MrgAt n L H W (wr.drewN d) i j xs :=
  ⟨h.hi, h.hj, h.len, h.own, h.eq, below_drewN h.bel d⟩
theorem merge_up {L H : List Int} (h1 : UpU L) (h2 : UpU H) : UpU (List.merge L H leI) := List.pairwise_merge leI_trans leI_total L H h1 h2
end Go.Proofs.Qxb6616132a
