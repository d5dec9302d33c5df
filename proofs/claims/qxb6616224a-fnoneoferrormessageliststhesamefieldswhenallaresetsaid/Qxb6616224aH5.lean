/-
  THE WALK of Message's third form.
-/
import Derived.Test.Qxb6616224aH4
import Derived.Deep.RegionHeld
namespace Go.Proofs.Qxb6616224a
open Go.RowKit

set_option maxRecDepth 4000 in
set_option maxHeartbeats 4000000 in
theorem message3 (w : World) (p : Nat) (fa : Option Addr) (xs : List ByteArray) (fc : Nat) (wt : ByteArray) (hwt : wt.toList.isEmpty = false) (hws : wt.size ≤ 1048576) (sa : Option Addr) (ys : List ByteArray) (sc : Nat) (hys : 0 < ys.length) (h : ErrAt w p fa xs fc wt sa ys sc) (hx : Small (lists xs)) (h1 : 0 < xs.length) (hy : Small (lists ys)) :
    Calls Try.prog 9 #[.pointer (some ⟨p, 0, none⟩), .func (.func 10) #[] #[]] w fun e w' => ∃ E : ByteArray, e = .returned (.string E) ∧ E.size ≤ 4398046511104 ∧ Hid (E.data.toList = msg3 (enumT (lists ys) tAnd.data.toList) wt.data.toList (enumT (lists xs) tAnd.data.toList)) ∧ Below w.heap.size w w' := by
  have hm : ys.length ≤ 1048576 := by have := hy.1; rw [lists_len] at this; exact this
  have HSy : Hid (Small (lists ys)) := hy
  clear hy
  have hn : xs.length ≤ 1048576 := by have := hx.1; rw [lists_len] at this; exact this
  obtain ⟨hp, hc1, hc2, hc3, hX, hY⟩ := h
  have HX : Hid (StrsAt w fa xs) := hX
  have HY : Hid (StrsAt w sa ys) := hY
  have HS : Hid (Small (lists xs)) := hx
  have HC2 : Hid (w.cell? ⟨p, 2, none⟩ = some (.string wt)) := hc2
  have HC3 : Hid (w.cell? ⟨p, 3, none⟩ = some (.slice sa ys.length sc)) := hc3
  clear hX hY hx hc3 hc2
  go_enter Try.func9, Try.ntmps9
  go_wp2_with fail
  refine Calls.mono (each_at (w.alloc (.cells #[.func (.func 10) #[] #[]] 31)) _ (Below.refl _ _) fa xs fc w.heap.size (by omega) (HX.out.below ((Below.refl _ _).alloc (Nat.le_refl _) _)) (box_lt _ _) (new_box w)) ?_
  rintro e W1 ⟨g, rfl, S1, hB1⟩
  have Q1 : Hid (w.heap.size < W1.heap.size ∧ W1.cell? ⟨w.heap.size, 0, none⟩ = some (.func (.func 10) #[] #[])) := ⟨Nat.lt_of_lt_of_le (box_lt _ _) hB1.size, (hB1.cell (by exact box_lt _ _)).trans (new_box w)⟩
  have B1 : Hid (Below w.heap.size w W1) := ((Below.refl _ _).alloc (Nat.le_refl _) _).trans (hB1.mono (by simp))
  clear hB1 hc1
  have hp1 : p < W1.heap.size := Nat.lt_of_lt_of_le hp B1.out.size
  have hw2 : W1.cell? ⟨p, 2, none⟩ = some (.string wt) := (B1.out.cell (by exact hp)).trans HC2.out
  have hw3 : W1.cell? ⟨p, 3, none⟩ = some (.slice sa ys.length sc) := (B1.out.cell (by exact hp)).trans HC3.out
  have HW2 : Hid (W1.cell? ⟨p, 2, none⟩ = some (.string wt)) := hw2
  have HW3 : Hid (W1.cell? ⟨p, 3, none⟩ = some (.slice sa ys.length sc)) := hw3
  have HY1 : Hid (StrsAt W1 sa ys) := HY.out.below B1.out
  go_upto_region 7 with fail
  have hd : Below W1.heap.size W1 W1.drew := (Below.refl _ _).drew
  have HD : Hid (Below W1.heap.size W1 W1.drew) := hd
  have hm2 : ys.length ≤ 1073741824 := by omega
  clear hd
  go_region_held (fun w' => w'.cell? ⟨p, 2, none⟩ = some (.string wt) ∧ w'.cell? ⟨p, 3, none⟩ = some (.slice sa ys.length sc)) (go_keep) (first
    | (go_at_call 12; refine Calls.mono (enum_at W1 W3 hB3 (some ⟨g, 0, none⟩) xs xs.length tAnd (Nat.le_refl _) h1 (by decide) HS.out S1.out) ?_; (rintro e W4 ⟨E2, rfl, hE2, HE2, hB4⟩; have hw42 : W4.cell? ⟨p, 2, none⟩ = some (.string wt) := (hB4.cell (by exact hp1)).trans HW2.out; have hw43 : W4.cell? ⟨p, 3, none⟩ = some (.slice sa ys.length sc) := (hB4.cell (by exact hp1)).trans HW3.out))
    | (go_at_call 12; refine Calls.mono (enum_at W2 W2 (Below.refl _ _) (some ⟨g2, 0, none⟩) ys ys.length tAnd (Nat.le_refl _) hys (by decide) HSy.out S2.out) ?_; (rintro e W3 ⟨E1, rfl, hE1, HE1, hB3'⟩; have hB3 : Below W1.heap.size W1 W3 := hB2.trans (hB3'.mono hB2.size); clear hB3'; have hw32 : W3.cell? ⟨p, 2, none⟩ = some (.string wt) := (hB3.cell (by exact hp1)).trans HW2.out; have hw33 : W3.cell? ⟨p, 3, none⟩ = some (.slice sa ys.length sc) := (hB3.cell (by exact hp1)).trans HW3.out))
    | (go_at_call 11; refine Calls.mono (each_at W1 W1.drew HD.out sa ys sc w.heap.size hm2 HY1.out Q1.out.1 Q1.out.2) ?_; (rintro e W2 ⟨g2, rfl, S2, hB2⟩; have hw22 : W2.cell? ⟨p, 2, none⟩ = some (.string wt) := (hB2.cell (by exact hp1)).trans HW2.out; have hw23 : W2.cell? ⟨p, 3, none⟩ = some (.slice sa ys.length sc) := (hB2.cell (by exact hp1)).trans HW3.out)))
  all_goals
    go_wp2_with fail
    go_ret
    refine ⟨_, rfl, ?_, ?_, ?_⟩
    · have e1 : tSets.size = 5 := rfl
      have e2 : tSemi.size = 2 := rfl
      have e3 : tOneOf.size = 21 := rfl
      simp only [ByteArray.size_append, e1, e2, e3]
      omega
    · rw [Hid, cat_list, cat_list, cat_list, cat_list, cat_list, HE1.out, HE2.out]
      rfl
    · have B2 : Below w.heap.size w W4 := B1.out.trans (hB4.mono B1.out.size)
      first | exact B2 | exact B2.drew | exact below_drewN B2 _
end Go.Proofs.Qxb6616224a
