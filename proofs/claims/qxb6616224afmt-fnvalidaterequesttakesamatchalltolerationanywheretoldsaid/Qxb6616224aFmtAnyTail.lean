/-
  FnValidateRequestTakesAMatchAllTolerationAnywhere, from its region 26 on.
-/
import Derived.Test.Qxb6616224aFmtG1
import Derived.Test.Qxb6616224aFmtRefTail
namespace Go.Proofs.Qxb6616224aFmt
open Go.RowKit Go.Extern.Stop Go.Stop Go.Extern

set_option maxRecDepth 100000 in
set_option maxHeartbeats 4000000 in
theorem anyTail (F : Interp) (HT : Hid (ShortT F)) (w W : World) (fld oth : ByteArray) (hfl : fld.size ≤ 1048576) (hol : oth.size ≤ 1048576) (a b : Option Addr) (S : List (Option ByteArray)) (L : List TolP) (ca cb : Nat) (hn : S.length ≤ 1048576) (hm : L.length ≤ 1048576)
    (gb : Option Addr) (gn gc : Nat) (G : List TolP) (hgn : gn = G.length) (hG : G.length = L.length + 1) (hGB : tolsB G = (tolsB L && decide (L.length < 16)))
    (HF : Hid (F.answers W.tape)) (HB : Hid (Below w.heap.size w W)) (HS : Hid (SelsAt W a S)) (HL : Hid (TolsAt W b L)) (HG : Hid (TolsAt W gb G))
    (u4 u5 u6 u7 u8 u9 u10 u11 u12 u13 u15 u16 u17 u18 u19 u20 u21 u22 u23 u24 u25 u26 u27 u28 u29 u30 u31 u32 u33 u34 u35 u36 u37 u38 u39 u40 u41 u42 u43 u44 u45 u46 u47 u48 u49 u50 u51 u52 u53 u54 u55 u56 u57 u58 u59 u60 u61 u62 u63 u64 u65 u66 u67 u68 u69 u70 u71 u72 u73 u74 u75 u76 u77 u78 u79 u80 u81 u82 u83 u84 u85 u86 u87 u88 u89 u90 u91 u92 u93 u94 u95 u96 u97 u98 u99 u100 u101 u102 u103 u104 u105 u106 u107 u108 u109 u110 u111 u112 u113 u114 u115 u116 u117 u118 u119 u120 u121 u122 u123 u124 u125 u126 u127 u128 u129 u130 u131 u132 u133 u134 u135 u136 u137 u138 u139 u140 u141 u142 u143 u144 u145 u146 u147 u148 u149 u150 u151 u152 u153 u154 : Value) :
    Code.wp Tryf.prog (codeFrom 26 Tryf.f4) (bodyPost Tryf.prog Tryf.f4 fun e w' => e = .returned (.bool true) ∧ Below w.heap.size w w')
      ⟨#[.string fld, .string oth, .slice a S.length ca, .slice b L.length cb, u4, u5, u6, u7, u8, u9, u10, u11, u12, u13, .slice gb gn gc, u15, u16, u17, u18, u19, u20, u21, u22, u23, u24, u25, u26, u27, u28, u29, u30, u31, u32, u33, u34, u35, u36, u37, u38, u39, u40, u41, u42, u43, u44, u45, u46, u47, u48, u49, u50, u51, u52, u53, u54, u55, u56, u57, u58, u59, u60, u61, u62, u63, u64, u65, u66, u67, u68, u69, u70, u71, u72, u73, u74, u75, u76, u77, u78, u79, u80, u81, u82, u83, u84, u85, u86, u87, u88, u89, u90, u91, u92, u93, u94, u95, u96, u97, u98, u99, u100, u101, u102, u103, u104, u105, u106, u107, u108, u109, u110, u111, u112, u113, u114, u115, u116, u117, u118, u119, u120, u121, u122, u123, u124, u125, u126, u127, u128, u129, u130, u131, u132, u133, u134, u135, u136, u137, u138, u139, u140, u141, u142, u143, u144, u145, u146, u147, u148, u149, u150, u151, u152, u153, u154], []⟩ W := by
  have hcases : (selsB S = false) ∨ (selsB S = true ∧ tolsB L = false ∧ tolsB G = false) ∨ (selsB S = true ∧ tolsB L = true ∧ tolsB G = true ∧ L.length < 16) ∨ (selsB S = true ∧ tolsB L = true ∧ tolsB G = false ∧ ¬ L.length < 16) := by
    rw [hGB]
    cases selsB S <;> cases tolsB L <;> by_cases h : L.length < 16 <;> simp [h]
  have hGl : G.length ≤ 1073741824 := by omega
  clear hGB hG
  subst hgn
  rcases hcases with hA | ⟨hA, hB, hGG⟩ | ⟨hA, hB, hGG, h16⟩ | ⟨hA, hB, hGG, h16⟩
  case inl =>
    have HA : Hid (selsB S = _) := hA
    clear hA
    dsimp only
    conv => arg 2; whnf
    go_wp2_with fail
    refine (toSels_any a S ca (by omega) W HS.out).mono ?_
    rintro x W1 ⟨sa, sc, rfl, hs1, hb1⟩
    have S1 : Hid (SelsAt W1 sa S) := hs1
    have B1 : Hid (Below W.heap.size W W1) := hb1
    clear hs1 hb1
    go_wp2_with fail
    refine (toTols_any b L cb (by omega) W1 (HL.out.below B1.out)).mono ?_
    rintro x W2 ⟨ta, tc, rfl, ht2, hb2⟩
    have T2 : Hid (TolsAt W2 ta L) := ht2
    have S2 : Hid (SelsAt W2 sa S) := S1.out.below hb2
    have B2 : Hid (Below W.heap.size W W2) := B1.out.trans (hb2.mono B1.out.size)
    have F2 : Hid (F.answers W2.tape) := tape_of HF.out B2.out
    clear ht2 hb2 S1 B1
    go_wp2_with fail
    refine Calls.mono (zzval_any F fld hfl HT sa S sc ta L tc (by omega) (by omega) W2 F2.out S2.out T2.out) ?_
    rintro x W3 ⟨r3, rfl, he3, hb3⟩
    rw [HA.out] at he3
    have B3 : Hid (Below W.heap.size W W3) := B2.out.trans (hb3.mono B2.out.size)
    clear hb3 T2 S2 B2 F2
    obtain ⟨p3, rfl⟩ := errIf_false he3
    clear he3
    go_wp2_with fail
    refine Calls.mono (toSels_any a S ca (by omega) W3 (HS.out.below B3.out)) ?_
    rintro x W4 ⟨sa4, sc4, rfl, hs4, hb4⟩
    have S4 : Hid (SelsAt W4 sa4 S) := hs4
    have B4 : Hid (Below W.heap.size W W4) := B3.out.trans (hb4.mono B3.out.size)
    clear hs4 hb4 B3
    go_wp2_with fail
    refine Calls.mono (toTols_any gb G gc (by omega) W4 (HG.out.below B4.out)) ?_
    rintro x W5 ⟨ta5, tc5, rfl, ht5, hb5⟩
    have T5 : Hid (TolsAt W5 ta5 G) := ht5
    have S5 : Hid (SelsAt W5 sa4 S) := S4.out.below hb5
    have B5 : Hid (Below W.heap.size W W5) := B4.out.trans (hb5.mono B4.out.size)
    have F5 : Hid (F.answers W5.tape) := tape_of HF.out B5.out
    clear ht5 hb5 S4 B4
    go_wp2_with fail
    refine Calls.mono (zzval_any F oth hol HT sa4 S sc4 ta5 G tc5 (by omega) (by omega) W5 F5.out S5.out T5.out) ?_
    rintro x W6 ⟨r6, rfl, he6, hb6⟩
    rw [HA.out] at he6
    have B6 : Hid (Below W.heap.size W W6) := B5.out.trans (hb6.mono B5.out.size)
    clear hb6 T5 S5 B5 F5
    obtain ⟨p6, rfl⟩ := errIf_false he6
    clear he6
    go_wp2_with fail
    refine Calls.mono (selsOK_any a S ca (by omega) W6 (HS.out.below B6.out)) ?_
    rintro x w6 ⟨rfl, hw6⟩
    subst hw6
    rw [HA.out]
    go_wp2_with fail
    go_ret
    exact ⟨rfl, HB.out.trans (B6.out.mono HB.out.size)⟩
  all_goals
    have HA : Hid (selsB S = _) := hA
    have HBB : Hid (tolsB L = _) := hB
    have HGG : Hid (tolsB G = _) := hGG
    clear hA hB hGG
    dsimp only
    conv => arg 2; whnf
    go_wp2_with fail
    refine (toSels_any a S ca (by omega) W HS.out).mono ?_
    rintro x W1 ⟨sa, sc, rfl, hs1, hb1⟩
    have S1 : Hid (SelsAt W1 sa S) := hs1
    have B1 : Hid (Below W.heap.size W W1) := hb1
    clear hs1 hb1
    go_wp2_with fail
    refine (toTols_any b L cb (by omega) W1 (HL.out.below B1.out)).mono ?_
    rintro x W2 ⟨ta, tc, rfl, ht2, hb2⟩
    have T2 : Hid (TolsAt W2 ta L) := ht2
    have S2 : Hid (SelsAt W2 sa S) := S1.out.below hb2
    have B2 : Hid (Below W.heap.size W W2) := B1.out.trans (hb2.mono B1.out.size)
    have F2 : Hid (F.answers W2.tape) := tape_of HF.out B2.out
    clear ht2 hb2 S1 B1
    go_wp2_with fail
    refine Calls.mono (zzval_any F fld hfl HT sa S sc ta L tc (by omega) (by omega) W2 F2.out S2.out T2.out) ?_
    rintro x W3 ⟨r3, rfl, he3, hb3⟩
    rw [HA.out, HBB.out] at he3
    have B3 : Hid (Below W.heap.size W W3) := B2.out.trans (hb3.mono B2.out.size)
    clear hb3 T2 S2 B2 F2
    first
      | (obtain rfl := errIf_true he3)
      | (obtain ⟨p3, rfl⟩ := errIf_false he3)
    clear he3
    go_wp2_with fail
    refine Calls.mono (toSels_any a S ca (by omega) W3 (HS.out.below B3.out)) ?_
    rintro x W4 ⟨sa4, sc4, rfl, hs4, hb4⟩
    have S4 : Hid (SelsAt W4 sa4 S) := hs4
    have B4 : Hid (Below W.heap.size W W4) := B3.out.trans (hb4.mono B3.out.size)
    clear hs4 hb4 B3
    go_wp2_with fail
    refine Calls.mono (toTols_any gb G gc (by omega) W4 (HG.out.below B4.out)) ?_
    rintro x W5 ⟨ta5, tc5, rfl, ht5, hb5⟩
    have T5 : Hid (TolsAt W5 ta5 G) := ht5
    have S5 : Hid (SelsAt W5 sa4 S) := S4.out.below hb5
    have B5 : Hid (Below W.heap.size W W5) := B4.out.trans (hb5.mono B4.out.size)
    have F5 : Hid (F.answers W5.tape) := tape_of HF.out B5.out
    clear ht5 hb5 S4 B4
    go_wp2_with fail
    refine Calls.mono (zzval_any F oth hol HT sa4 S sc4 ta5 G tc5 (by omega) (by omega) W5 F5.out S5.out T5.out) ?_
    rintro x W6 ⟨r6, rfl, he6, hb6⟩
    rw [HA.out, HGG.out] at he6
    have B6 : Hid (Below W.heap.size W W6) := B5.out.trans (hb6.mono B5.out.size)
    clear hb6 T5 S5 B5 F5
    first
      | (obtain rfl := errIf_true he6)
      | (obtain ⟨p6, rfl⟩ := errIf_false he6)
    clear he6
    go_wp2_with fail
    refine Calls.mono (selsOK_any a S ca (by omega) W6 (HS.out.below B6.out)) ?_
    rintro x w6 ⟨rfl, hw6⟩
    subst hw6
    rw [HA.out]
    go_wp2_with fail
    refine Calls.mono (tolsOK_any b L cb (by omega) W6 (HL.out.below B6.out)) ?_
    rintro x W7 ⟨rfl, hb7⟩
    rw [HBB.out]
    have B7 : Hid (Below w.heap.size w W7) := (HB.out.trans (B6.out.mono HB.out.size)).trans (hb7.mono (Nat.le_trans HB.out.size B6.out.size))
    clear hb7
    go_wp2_with fail
    go_ret
    exact ⟨ret_bool (by first | rfl | (simp; omega)), B7.out⟩
end Go.Proofs.Qxb6616224aFmt
