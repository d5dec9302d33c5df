/-
  THE WALK of Message and of ZZMessageNamedAsIs.
-/
import Derived.Test.Qxb6616224aH3
namespace Go.Proofs.Qxb6616224a
open Go.RowKit

abbrev tAnd : ByteArray := ⟨#[97, 110, 100]⟩
abbrev tOr : ByteArray := ⟨#[111, 114]⟩
abbrev tExactly : ByteArray := ⟨#[101, 120, 97, 99, 116, 108, 121, 32, 111, 110, 101, 32, 111, 102, 32]⟩
abbrev tMust : ByteArray := ⟨#[32, 109, 117, 115, 116, 32, 98, 101, 32, 115, 101, 116]⟩
abbrev tNone : ByteArray := ⟨#[115, 101, 116, 115, 32, 110, 111, 110, 101, 32, 111, 102, 32]⟩
abbrev tSemi : ByteArray := ⟨#[59, 32]⟩
abbrev tOne : ByteArray := ⟨#[32, 115, 101, 116, 115, 32, 101, 120, 97, 99, 116, 108, 121, 32, 111, 110, 101]⟩
abbrev tOneOf : ByteArray := ⟨#[32, 115, 101, 116, 115, 32, 101, 120, 97, 99, 116, 108, 121, 32, 111, 110, 101, 32, 111, 102, 32]⟩
abbrev tSets : ByteArray := ⟨#[115, 101, 116, 115, 32]⟩

/-- What the message says, in its three forms. -/
def msg1 (E : List UInt8) : List UInt8 := tExactly.data.toList ++ E ++ tMust.data.toList
def msg2 (E wt : List UInt8) : List UInt8 := tNone.data.toList ++ E ++ tSemi.data.toList ++ wt ++ tOne.data.toList
def msg3 (E1 wt E2 : List UInt8) : List UInt8 := tSets.data.toList ++ E1 ++ tSemi.data.toList ++ wt ++ tOneOf.data.toList ++ E2

/-- The error at p, its fields' strings behind their slices. -/
structure ErrAt (w : World) (p : Nat) (fa : Option Addr) (xs : List ByteArray) (fc : Nat) (wt : ByteArray) (sa : Option Addr) (ys : List ByteArray) (sc : Nat) : Prop where
  lt : p < w.heap.size
  c1 : w.cell? ⟨p, 1, none⟩ = some (.slice fa xs.length fc)
  c2 : w.cell? ⟨p, 2, none⟩ = some (.string wt)
  c3 : w.cell? ⟨p, 3, none⟩ = some (.slice sa ys.length sc)
  hx : StrsAt w fa xs
  hy : StrsAt w sa ys
theorem ErrAt.below {w w' : World} {p : Nat} {fa : Option Addr} {xs : List ByteArray} {fc : Nat} {wt : ByteArray} {sa : Option Addr} {ys : List ByteArray} {sc : Nat} (h : ErrAt w p fa xs fc wt sa ys sc) (hb : Below w.heap.size w w') : ErrAt w' p fa xs fc wt sa ys sc :=
  ⟨Nat.lt_of_lt_of_le h.lt hb.size, (hb.cell (by exact h.lt)).trans h.c1, (hb.cell (by exact h.lt)).trans h.c2, (hb.cell (by exact h.lt)).trans h.c3, h.hx.below hb, h.hy.below hb⟩

theorem new_box (w : World) : (w.alloc (.cells #[.func (.func 10) #[] #[]] 31)).cell? ⟨w.heap.size, 0, none⟩ = some (.func (.func 10) #[] #[]) := by
  rw [World.cell?_alloc_mark]; rfl
theorem box_lt (w : World) (o : Obj) : w.heap.size < (w.alloc o).heap.size := by simp

theorem enum_at (w W : World) (hB : Below w.heap.size w W) (a : Option Addr) (xs : List ByteArray) (cap : Nat) (cj : ByteArray) (hcap : xs.length ≤ cap) (h1 : 0 < xs.length) (hcj : cj.size ≤ 16) (hsm : Small (lists xs)) (hS : StrsAt w a xs) :
    Calls Try.prog 12 #[.slice a xs.length cap, .string cj] W fun e w' => ∃ E : ByteArray, e = .returned (.string E) ∧ E.size ≤ 1099559900800 ∧ Hid (E.data.toList = enumT (lists xs) cj.data.toList) ∧ Below w.heap.size w w' := by
  refine (enum_any a xs cap cj hcap h1 hcj hsm W (hS.below hB)).mono ?_
  rintro e w' ⟨E, rfl, h2, h3, h4⟩
  exact ⟨E, rfl, h2, h3, hB.trans (h4.mono hB.size)⟩
theorem each_at (w W : World) (hB : Below w.heap.size w W) (a : Option Addr) (xs : List ByteArray) (cap q : Nat) (hn : xs.length ≤ 1073741824) (hS : StrsAt w a xs) (hq : q < w.heap.size) (hqc : w.cell? ⟨q, 0, none⟩ = some (.func (.func 10) #[] #[])) :
    Calls Try.prog 11 #[.slice a xs.length cap, .pointer (some ⟨q, 0, none⟩)] W fun e w' => ∃ g, e = .returned (.slice (some ⟨g, 0, none⟩) xs.length xs.length) ∧ Hid (StrsAt w' (some ⟨g, 0, none⟩) xs) ∧ Below w.heap.size w w' := by
  refine (each_any a xs cap q hn W (hS.below hB) (Nat.lt_of_lt_of_le hq hB.size) ((hB.cell (by exact hq)).trans hqc)).mono ?_
  rintro e w' ⟨rfl, h3, h4⟩
  exact ⟨_, rfl, h3, hB.trans (h4.mono hB.size)⟩

set_option maxRecDepth 4000 in
set_option maxHeartbeats 1600000 in
theorem message1 (w : World) (p : Nat) (fa : Option Addr) (xs : List ByteArray) (fc : Nat) (sa : Option Addr) (ys : List ByteArray) (sc : Nat) (h : ErrAt w p fa xs fc ⟨#[]⟩ sa ys sc) (hx : Small (lists xs)) (h1 : 0 < xs.length) :
    Calls Try.prog 9 #[.pointer (some ⟨p, 0, none⟩), .func (.func 10) #[] #[]] w fun e w' => ∃ E : ByteArray, e = .returned (.string E) ∧ E.size ≤ 4398046511104 ∧ Hid (E.data.toList = msg1 (enumT (lists xs) tAnd.data.toList)) ∧ Below w.heap.size w w' := by
  have hn : xs.length ≤ 1048576 := by have := hx.1; rw [lists_len] at this; exact this
  obtain ⟨hp, hc1, hc2, hc3, hX, hY⟩ := h
  have HX : Hid (StrsAt w fa xs) := hX
  have HS : Hid (Small (lists xs)) := hx
  have HC2 : Hid (w.cell? ⟨p, 2, none⟩ = some (.string ⟨#[]⟩)) := hc2
  have HC3 : Hid (w.cell? ⟨p, 3, none⟩ = some (.slice sa ys.length sc)) := hc3
  clear hX hY hx hc3 hc2
  go_enter Try.func9, Try.ntmps9
  go_wp2_with fail
  refine Calls.mono (each_at (w.alloc (.cells #[.func (.func 10) #[] #[]] 31)) _ (Below.refl _ _) fa xs fc w.heap.size (by omega) (HX.out.below ((Below.refl _ _).alloc (Nat.le_refl _) _)) (box_lt _ _) (new_box w)) ?_
  rintro e W1 ⟨g, rfl, S1, hB1⟩
  have B1 : Hid (Below w.heap.size w W1) := ((Below.refl _ _).alloc (Nat.le_refl _) _).trans (hB1.mono (by simp))
  clear hB1 hc1
  have hp1 : p < W1.heap.size := Nat.lt_of_lt_of_le hp B1.out.size
  have hw2 : W1.cell? ⟨p, 2, none⟩ = some (.string ⟨#[]⟩) := (B1.out.cell (by exact hp)).trans HC2.out
  have hw3 : W1.cell? ⟨p, 3, none⟩ = some (.slice sa ys.length sc) := (B1.out.cell (by exact hp)).trans HC3.out
  go_wp2_with fail
  refine Calls.mono (enum_any _ xs xs.length tAnd (Nat.le_refl _) h1 (by decide) HS.out W1 S1.out) ?_
  rintro e W2 ⟨E, rfl, hE, HE, hB2⟩
  have B2 : Hid (Below w.heap.size w W2) := B1.out.trans (hB2.mono B1.out.size)
  clear hB2 hw2 hw3
  go_wp2_with fail
  go_ret
  refine ⟨_, rfl, ?_, ?_, B2.out⟩
  · have e1 : tExactly.size = 15 := rfl
    have e2 : tMust.size = 12 := rfl
    simp only [ByteArray.size_append, e1, e2]
    omega
  · rw [Hid, cat_list, cat_list, HE.out]
    rfl

set_option maxRecDepth 4000 in
set_option maxHeartbeats 1600000 in
theorem message2 (w : World) (p : Nat) (fa : Option Addr) (xs : List ByteArray) (fc : Nat) (wt : ByteArray) (hwt : wt.toList.isEmpty = false) (hws : wt.size ≤ 1048576) (sa : Option Addr) (ys : List ByteArray) (sc : Nat) (hys : ys.length = 0) (h : ErrAt w p fa xs fc wt sa ys sc) (hx : Small (lists xs)) (h1 : 0 < xs.length) :
    Calls Try.prog 9 #[.pointer (some ⟨p, 0, none⟩), .func (.func 10) #[] #[]] w fun e w' => ∃ E : ByteArray, e = .returned (.string E) ∧ E.size ≤ 4398046511104 ∧ Hid (E.data.toList = msg2 (enumT (lists xs) tOr.data.toList) wt.data.toList) ∧ Below w.heap.size w w' := by
  have hn : xs.length ≤ 1048576 := by have := hx.1; rw [lists_len] at this; exact this
  obtain ⟨hp, hc1, hc2, hc3, hX, hY⟩ := h
  have HX : Hid (StrsAt w fa xs) := hX
  have HS : Hid (Small (lists xs)) := hx
  have HC2 : Hid (w.cell? ⟨p, 2, none⟩ = some (.string wt)) := hc2
  have HC3 : Hid (w.cell? ⟨p, 3, none⟩ = some (.slice sa ys.length sc)) := hc3
  clear hX hY hx hc3 hc2
  go_enter Try.func9, Try.ntmps9
  go_wp2_with fail
  refine Calls.mono (each_at (w.alloc (.cells #[.func (.func 10) #[] #[]] 31)) _ (Below.refl _ _) fa xs fc w.heap.size (by omega) (HX.out.below ((Below.refl _ _).alloc (Nat.le_refl _) _)) (box_lt _ _) (new_box w)) ?_
  rintro e W1 ⟨g, rfl, S1, hB1⟩
  have B1 : Hid (Below w.heap.size w W1) := ((Below.refl _ _).alloc (Nat.le_refl _) _).trans (hB1.mono (by simp))
  clear hB1 hc1
  have hp1 : p < W1.heap.size := Nat.lt_of_lt_of_le hp B1.out.size
  have hw2 : W1.cell? ⟨p, 2, none⟩ = some (.string wt) := (B1.out.cell (by exact hp)).trans HC2.out
  have hw3 : W1.cell? ⟨p, 3, none⟩ = some (.slice sa ys.length sc) := (B1.out.cell (by exact hp)).trans HC3.out
  have HW2 : Hid (W1.cell? ⟨p, 2, none⟩ = some (.string wt)) := hw2
  go_upto_region 6 with fail
  go_region_with (go_at_call 12; refine Calls.mono (enum_at W1 _ ?_ _ xs xs.length tOr (Nat.le_refl _) h1 (by decide) HS.out S1.out) ?_; exact (by first | exact Below.refl _ _ | exact (Below.refl _ _).drew); (rintro e W2 ⟨E, rfl, hE, HE, hB2⟩; have hw22 : W2.cell? ⟨p, 2, none⟩ = some (.string wt) := (hB2.cell (by exact hp1)).trans HW2.out))
  all_goals
    go_wp2_with fail
    go_ret
    refine ⟨_, rfl, ?_, ?_, ?_⟩
    · have e1 : tNone.size = 13 := rfl
      have e2 : tSemi.size = 2 := rfl
      have e3 : tOne.size = 17 := rfl
      simp only [ByteArray.size_append, e1, e2, e3]
      omega
    · rw [Hid, cat_list, cat_list, cat_list, cat_list, HE.out]
      rfl
    · have B2 : Below w.heap.size w W2 := B1.out.trans (hB2.mono B1.out.size)
      first | exact B2 | exact B2.drew | exact below_drewN B2 _

end Go.Proofs.Qxb6616224a
