/-
  FnOneOfErrorMessageMatchesItsThreeForms, from its region 20 on.
-/
import Derived.Test.Qxb6616224aH7
import Derived.Test.Qxb6616224aTail
namespace Go.Proofs.Qxb6616224a
open Go.RowKit

theorem bytes_inj {a b : ByteArray} (h : a.data.toList = b.data.toList) : a = b := by
  apply ByteArray.ext
  apply Array.ext'
  exact h
theorem ret_bool {a b : Bool} (h : a = b) : Ending.returned (.bool a) = .returned (.bool b) := by rw [h]
theorem err_new (W : World) (fld wt : ByteArray) (a b : Option Addr) (xs ys : List ByteArray) (ca cb : Nat) (hX : StrsAt W a xs) (hY : StrsAt W b ys) :
    ErrAt (W.alloc (.cells #[.string fld, .slice a xs.length ca, .string wt, .slice b ys.length cb] 27)) W.heap.size a xs ca wt b ys cb :=
  ⟨box_lt _ _, by rw [World.cell?_alloc_mark]; rfl, by rw [World.cell?_alloc_mark]; rfl, by rw [World.cell?_alloc_mark]; rfl, hX.below ((Below.refl _ _).alloc (Nat.le_refl _) _), hY.below ((Below.refl _ _).alloc (Nat.le_refl _) _)⟩

set_option maxRecDepth 100000 in
set_option maxHeartbeats 4000000 in
theorem aTail (w W : World) (fld wt : ByteArray) (hws : wt.size ≤ 1048576) (a b : Option Addr) (xs ys : List ByteArray) (ca cb : Nat) (h1 : 0 < xs.length) (HXs : Hid (Small (lists xs))) (HYs : Hid (Small (lists ys)))
    (HB : Hid (Below w.heap.size w W)) (HX : Hid (StrsAt W a xs)) (HY : Hid (StrsAt W b ys))
    (u4 u5 u6 u7 u8 u9 u10 u11 u12 u13 u14 u15 u16 u17 u18 u19 u20 u21 u22 u23 u24 u25 u26 u27 u28 u29 u30 u31 u32 u33 u34 u35 u36 u37 u38 u39 u40 u41 u42 u43 u44 u45 u46 u47 u48 u49 u50 u51 u52 u53 u54 u55 u56 u57 u58 u59 u60 u61 u62 u63 u64 u65 u66 u67 u68 u69 u70 u71 u72 u73 u74 u75 u76 u77 u78 u79 u80 u81 u82 u83 u84 u85 u86 u87 u88 u89 u90 u91 u92 u93 u94 u95 u96 u97 : Value) :
    Code.wp Try.prog (codeFrom 20 Try.f3) (bodyPost Try.prog Try.f3 fun e w' => e = .returned (.bool true) ∧ Below w.heap.size w w')
      ⟨#[.string fld, .slice a xs.length ca, .string wt, .slice b ys.length cb, u4, u5, u6, u7, u8, u9, u10, u11, u12, u13, u14, u15, u16, u17, u18, u19, u20, u21, u22, u23, u24, u25, u26, u27, u28, u29, u30, u31, u32, u33, u34, u35, u36, u37, u38, u39, u40, u41, u42, u43, u44, u45, u46, u47, u48, u49, u50, u51, u52, u53, u54, u55, u56, u57, u58, u59, u60, u61, u62, u63, u64, u65, u66, u67, u68, u69, u70, u71, u72, u73, u74, u75, u76, u77, u78, u79, u80, u81, u82, u83, u84, u85, u86, u87, u88, u89, u90, u91, u92, u93, u94, u95, u96, u97], []⟩ W := by
  dsimp only
  conv => arg 2; whnf
  go_wp2_with fail
  refine Calls.mono (zz_any _ W.heap.size a xs ca wt hws b ys cb (err_new W fld wt a b xs ys ca cb HX.out HY.out) HXs.out h1 HYs.out) ?_
  rintro e W1 ⟨E, rfl, hE, HE, hB1⟩
  have B1 : Hid (Below W.heap.size W W1) := ((Below.refl _ _).alloc (Nat.le_refl _) _).trans (hB1.mono (by simp))
  clear hB1
  by_cases he : wt.data.toList = []
  · obtain rfl := empty_of he
    clear he
    go_wp2_with fail
    refine Calls.mono (listText_at W W1 B1.out a xs ca tAnd (by decide) h1 HXs.out HX.out) ?_
    rintro e W2 ⟨T, rfl, hT, HT, hB2⟩
    have B2 : Hid (Below w.heap.size w W2) := HB.out.trans (hB2.mono HB.out.size)
    clear hB2
    have hEq : E = tExactly ++ T ++ tMust := bytes_inj (by rw [HE.out, msgT, if_pos rfl, cat_list, cat_list, HT.out]; rfl)
    clear HE HT
    subst hEq
    go_wp2_with fail
    go_ret
    exact ⟨ret_bool (by simp), B2.out⟩
  · have hne := not_empty he
    have He : Hid (¬ wt.data.toList = []) := he
    clear he
    by_cases hs : ys.length = 0
    · go_wp2_with fail
      refine Calls.mono (listText_at W W1 B1.out a xs ca tOr (by decide) h1 HXs.out HX.out) ?_
      rintro e W2 ⟨T, rfl, hT, HT, hB2⟩
      have B2 : Hid (Below w.heap.size w W2) := HB.out.trans (hB2.mono HB.out.size)
      clear hB2
      have hEq : E = tNone ++ T ++ tSemi ++ wt ++ tOne := bytes_inj (by rw [HE.out, msgT, if_neg He.out, if_pos (by rw [lists_len]; exact hs), cat_list, cat_list, cat_list, cat_list, HT.out]; rfl)
      clear HE HT
      subst hEq
      go_wp2_with fail
      go_ret
      exact ⟨ret_bool (by simp), B2.out⟩
    · have hs1 : 0 < ys.length := by omega
      have Hs : Hid (¬ ys.length = 0) := hs
      clear hs
      go_wp2_with fail
      refine Calls.mono (listText_at W W1 B1.out b ys cb tAnd (by decide) hs1 HYs.out HY.out) ?_
      rintro e W2 ⟨T1, rfl, hT1, HT1, hB2⟩
      have B2 : Hid (Below W.heap.size W W2) := hB2
      clear hB2
      go_wp2_with fail
      refine Calls.mono (listText_at W W2 B2.out a xs ca tAnd (by decide) h1 HXs.out HX.out) ?_
      rintro e W3 ⟨T2, rfl, hT2, HT2, hB3⟩
      have B3 : Hid (Below w.heap.size w W3) := HB.out.trans (hB3.mono HB.out.size)
      clear hB3
      have hEq : E = tSets ++ T1 ++ tSemi ++ wt ++ tOneOf ++ T2 := bytes_inj (by rw [HE.out, msgT, if_neg He.out, if_neg (by rw [lists_len]; exact Hs.out), cat_list, cat_list, cat_list, cat_list, cat_list, HT1.out, HT2.out]; rfl)
      clear HE HT1 HT2
      subst hEq
      go_wp2_with fail
      go_ret
      exact ⟨ret_bool (by simp), B3.out⟩
end Go.Proofs.Qxb6616224a
