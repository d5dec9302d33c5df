/-
  FnOneOfErrorMessageListsTheSameFieldsWhenAllAreSet, from its region 14 on.
-/
import Derived.Test.Qxb6616224aThreeTail
namespace Go.Proofs.Qxb6616224a
open Go.RowKit

theorem strs_none (w : World) : StrsAt w none [] := fun i hi => absurd hi (by simp)
theorem small_none : Small (lists []) := ⟨by simp [lists], fun i => by simp [lists]⟩

theorem ext_list (s : ByteArray) (i j : Nat) : (s.extract i j).data.toList = (s.data.toList.take j).drop i := by
  simp [ByteArray.data_extract, Array.toList_extract, List.extract_eq_take_drop, List.drop_take]
theorem ext_pre (L : ByteArray) : ((tExactly ++ L ++ tMust).extract 0 15).data.toList = [101, 120, 97, 99, 116, 108, 121, 32, 111, 110, 101, 32, 111, 102, 32] := by
  rw [ext_list, cat_list, cat_list]
  simp
theorem mid_list (P M S : List UInt8) : ((P ++ M ++ S).take (P.length + M.length)).drop P.length = M := by
  rw [← List.length_append, List.take_left, List.drop_left]
theorem suf_list (P M S : List UInt8) : ((P ++ M ++ S).take (P.length + M.length + S.length)).drop (P.length + M.length) = S := by
  rw [← List.length_append, ← List.length_append, List.take_length, List.drop_left]
theorem ext_mid (L : ByteArray) : (tExactly ++ L ++ tMust).extract 15 (15 + L.size) = L := by
  apply bytes_inj
  rw [ext_list, cat_list, cat_list]
  have e : L.size = L.data.toList.length := by simp
  rw [e]
  exact mid_list tExactly.data.toList L.data.toList tMust.data.toList
theorem ext_suf (L : ByteArray) : ((tExactly ++ L ++ tMust).extract (15 + L.size) (27 + L.size)).data.toList = [32, 109, 117, 115, 116, 32, 98, 101, 32, 115, 101, 116] := by
  rw [ext_list, cat_list, cat_list]
  have e : L.size = L.data.toList.length := by simp
  have e2 : 27 + L.data.toList.length = 15 + L.data.toList.length + 12 := by omega
  rw [e, e2]
  exact suf_list tExactly.data.toList L.data.toList tMust.data.toList

set_option maxRecDepth 100000 in
set_option maxHeartbeats 4000000 in
theorem bTail (w W : World) (fld wt : ByteArray) (hws : wt.size ≤ 1048576) (a : Option Addr) (xs : List ByteArray) (ca : Nat) (h1 : 0 < xs.length) (HXs : Hid (Small (lists xs)))
    (HB : Hid (Below w.heap.size w W)) (HX : Hid (StrsAt W a xs))
    (u3 u4 u5 u6 u7 u8 u9 u10 u11 u12 u13 u14 u15 u16 u17 u18 u19 u20 u21 u22 u23 u24 u25 u26 u27 u28 u29 u30 u31 u32 u33 u34 u35 u36 u37 u38 u39 u40 u41 u42 u43 u44 u45 u46 u47 u48 u49 u50 u51 u52 u53 u54 u55 u56 u57 u58 u59 u60 u61 u62 u63 u64 u65 u66 u67 u68 u69 u70 u71 u72 u73 u74 u75 u76 u77 u78 u79 u80 u81 u82 u83 u84 u85 u86 u87 u88 u89 u90 u91 u92 : Value) :
    Code.wp Try.prog (codeFrom 14 Try.f4) (bodyPost Try.prog Try.f4 fun e w' => e = .returned (.bool true) ∧ Below w.heap.size w w')
      ⟨#[.string fld, .slice a xs.length ca, .string wt, u3, u4, u5, u6, u7, u8, u9, u10, u11, u12, u13, u14, u15, u16, u17, u18, u19, u20, u21, u22, u23, u24, u25, u26, u27, u28, u29, u30, u31, u32, u33, u34, u35, u36, u37, u38, u39, u40, u41, u42, u43, u44, u45, u46, u47, u48, u49, u50, u51, u52, u53, u54, u55, u56, u57, u58, u59, u60, u61, u62, u63, u64, u65, u66, u67, u68, u69, u70, u71, u72, u73, u74, u75, u76, u77, u78, u79, u80, u81, u82, u83, u84, u85, u86, u87, u88, u89, u90, u91, u92], []⟩ W := by
  dsimp only
  conv => arg 2; whnf
  go_wp2_with fail
  refine Calls.mono (zz_any _ W.heap.size a xs ca ⟨#[]⟩ (by decide) none [] 0 (err_new W fld ⟨#[]⟩ a none xs [] ca 0 HX.out (strs_none _)) HXs.out h1 small_none) ?_
  rintro e W1 ⟨E1, rfl, hE1, HE1, hB1⟩
  have B1 : Hid (Below W.heap.size W W1) := ((Below.refl _ _).alloc (Nat.le_refl _) _).trans (hB1.mono (by simp))
  clear hB1
  obtain ⟨L, hL⟩ : ∃ L : ByteArray, L.data.toList = enumT (lists xs) tAnd.data.toList := ⟨⟨(enumT (lists xs) tAnd.data.toList).toArray⟩, rfl⟩
  have HL : Hid (L.data.toList = enumT (lists xs) tAnd.data.toList) := hL
  have hEq1 : E1 = tExactly ++ L ++ tMust := bytes_inj (by rw [HE1.out, msgT, if_pos rfl, cat_list, cat_list, HL.out]; rfl)
  have HEq1 : Hid (E1 = tExactly ++ L ++ tMust) := hEq1
  clear HE1 hL hEq1
  go_wp2_with fail
  refine Calls.mono (zz_any _ W1.heap.size a xs ca wt hws a xs ca (err_new W1 fld wt a a xs xs ca ca (HX.out.below B1.out) (HX.out.below B1.out)) HXs.out h1 HXs.out) ?_
  rintro e W2 ⟨E2, rfl, hE2, HE2, hB2⟩
  have B2 : Hid (Below W.heap.size W W2) := B1.out.trans ((((Below.refl _ _).alloc (Nat.le_refl _) _).trans (hB2.mono (by simp))).mono B1.out.size)
  clear hB2
  have hLs : E1.size = 27 + L.size := by
    rw [HEq1.out]
    have e1 : tExactly.size = 15 := rfl
    have e2 : tMust.size = 12 := rfl
    simp only [ByteArray.size_append, e1, e2]
    omega
  have hLl : L.size ≤ 4398046511104 := by omega
  have hx1 : (E1.extract 0 15).toList = [101, 120, 97, 99, 116, 108, 121, 32, 111, 110, 101, 32, 111, 102, 32] := by
    rw [ByteArray.toList_eq, HEq1.out]
    exact ext_pre L
  have e27 : 27 + L.size - 12 = 15 + L.size := by omega
  have hx3 : E1.extract 15 (27 + L.size - 12) = L := by
    rw [HEq1.out, e27]
    exact ext_mid L
  have hx2 : (E1.extract (27 + L.size - 12) (27 + L.size)).toList = [32, 109, 117, 115, 116, 32, 98, 101, 32, 115, 101, 116] := by
    rw [ByteArray.toList_eq, HEq1.out, e27]
    exact ext_suf L
  clear e27
  go_wp2_with fail
  refine Calls.mono (listText_at W W2 B2.out a xs ca tAnd (by decide) h1 HXs.out HX.out) ?_
  rintro e W3 ⟨T, rfl, hT, HT, hB3⟩
  have B3 : Hid (Below w.heap.size w W3) := HB.out.trans (hB3.mono HB.out.size)
  clear hB3
  have hTL : T = L := bytes_inj (by rw [HT.out, HL.out])
  subst hTL
  clear hx1 hx2
  by_cases he : wt.data.toList = []
  · obtain rfl := empty_of he
    clear he
    have hEq : E2 = E1 := bytes_inj (by rw [HE2.out, HEq1.out, msgT, if_pos rfl, cat_list, cat_list, HL.out]; rfl)
    subst hEq
    go_wp2_with fail
    go_ret
    exact ⟨ret_bool (by simp), B3.out⟩
  · have hne := not_empty he
    have hEq : E2 = tSets ++ T ++ tSemi ++ wt ++ tOneOf ++ T := bytes_inj (by rw [HE2.out, msgT, if_neg he, if_neg (by rw [lists_len]; omega), cat_list, cat_list, cat_list, cat_list, cat_list, HL.out]; rfl)
    clear he HE2
    subst hEq
    go_wp2_with fail
    go_ret
    exact ⟨ret_bool (by simp), B3.out⟩
end Go.Proofs.Qxb6616224a
