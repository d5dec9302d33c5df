/-
  FnValidateRequestRefuses.., from its region 20 on.
-/
import Derived.Test.Qxb6616224aFmtF6
import Derived.Test.Qxb6616224aFmtTail
namespace Go.Proofs.Qxb6616224aFmt
open Go.RowKit Go.Extern.Stop Go.Stop Go.Extern

theorem errIf_true {r : Value} (h : ErrIf true r) : r = .nilIface := by
  rcases h with h | h
  · exact h.2
  · cases h.1
theorem errIf_false {r : Value} (h : ErrIf false r) : ∃ p, r = .iface 53 (.pointer (some p)) := by
  rcases h with h | h
  · cases h.1
  · exact h.2
theorem toSels_any (a : Option Addr) (S : List (Option ByteArray)) (cap : Nat) (hn : S.length ≤ 1073741824) (w : World) (hS : SelsAt w a S) :
    Calls Tryf.prog 6 #[.slice a S.length cap] w fun e w' => ∃ a' c', e = .returned (.slice a' S.length c') ∧ SelsAt w' a' S ∧ Below w.heap.size w w' := by
  cases a with
  | none =>
    have h0 : S.length = 0 := by
      rcases Nat.eq_zero_or_pos S.length with h | h
      · exact h
      · obtain ⟨_, _, _, e, _⟩ := hS 0 h; cases e
    refine (toSels_nil _ cap w).mono ?_
    rintro e w' ⟨rfl, rfl⟩
    exact ⟨none, 0, by rw [h0], hS, Below.refl _ _⟩
  | some x =>
    refine (toSels_some x S cap hn w hS).mono ?_
    rintro e w' ⟨rfl, h1, h2⟩
    exact ⟨_, _, rfl, h1, h2⟩
theorem toTols_any (a : Option Addr) (L : List TolP) (cap : Nat) (hn : L.length ≤ 1073741824) (w : World) (hL : TolsAt w a L) :
    Calls Tryf.prog 7 #[.slice a L.length cap] w fun e w' => ∃ a' c', e = .returned (.slice a' L.length c') ∧ TolsAt w' a' L ∧ Below w.heap.size w w' := by
  cases a with
  | none =>
    have h0 : L.length = 0 := by
      rcases Nat.eq_zero_or_pos L.length with h | h
      · exact h
      · obtain ⟨_, _, e, _⟩ := hL 0 h; cases e
    refine (toTols_nil _ cap w).mono ?_
    rintro e w' ⟨rfl, rfl⟩
    exact ⟨none, 0, by rw [h0], hL, Below.refl _ _⟩
  | some x =>
    refine (toTols_some x L cap hn w hL).mono ?_
    rintro e w' ⟨rfl, h1, h2⟩
    exact ⟨_, _, rfl, h1, h2⟩

theorem tape_of {F : Interp} {B : Nat} {w w' : World} (h : F.answers w.tape) (hb : Below B w w') : F.answers w'.tape := by rw [hb.tape]; exact h
theorem sels_none (w : World) : SelsAt w none [] := fun i hi => absurd hi (by simp)
theorem tols_none (w : World) : TolsAt w none [] := fun i hi => absurd hi (by simp)

set_option maxRecDepth 100000 in
set_option maxHeartbeats 4000000 in
theorem refTail (F : Interp) (HT : Hid (ShortT F)) (w W : World) (fld : ByteArray) (hfl : fld.size ≤ 1048576) (a b : Option Addr) (S : List (Option ByteArray)) (L : List TolP) (ca cb : Nat) (hn : S.length ≤ 1048576) (hm : L.length ≤ 1048576)
    (HF : Hid (F.answers W.tape)) (HB : Hid (Below w.heap.size w W)) (HS : Hid (SelsAt W a S)) (HL : Hid (TolsAt W b L))
    (u3 u4 u5 u6 u7 u8 u9 u10 u11 u12 u13 u14 u15 u16 u17 u18 u19 u20 u21 u22 u23 u24 u25 u26 u27 u28 u29 u30 u31 u32 u33 u34 u35 u36 u37 u38 u39 u40 u41 u42 u43 u44 u45 u46 u47 u48 u49 u50 u51 u52 u53 u54 u55 u56 u57 u58 u59 u60 u61 u62 u63 u64 u65 u66 u67 u68 u69 u70 u71 u72 u73 u74 u75 u76 u77 u78 u79 u80 u81 u82 u83 u84 u85 u86 u87 u88 u89 u90 u91 u92 u93 u94 u95 u96 u97 u98 u99 u100 u101 u102 u103 u104 u105 u106 u107 u108 u109 u110 u111 u112 u113 u114 u115 u116 u117 u118 u119 u120 u121 u122 u123 u124 u125 : Value) :
    Code.wp Tryf.prog (codeFrom 20 Tryf.f3) (bodyPost Tryf.prog Tryf.f3 fun e w' => e = .returned (.bool true) ∧ Below w.heap.size w w')
      ⟨#[.string fld, .slice a S.length ca, .slice b L.length cb, u3, u4, u5, u6, u7, u8, u9, u10, u11, u12, u13, u14, u15, u16, u17, u18, u19, u20, u21, u22, u23, u24, u25, u26, u27, u28, u29, u30, u31, u32, u33, u34, u35, u36, u37, u38, u39, u40, u41, u42, u43, u44, u45, u46, u47, u48, u49, u50, u51, u52, u53, u54, u55, u56, u57, u58, u59, u60, u61, u62, u63, u64, u65, u66, u67, u68, u69, u70, u71, u72, u73, u74, u75, u76, u77, u78, u79, u80, u81, u82, u83, u84, u85, u86, u87, u88, u89, u90, u91, u92, u93, u94, u95, u96, u97, u98, u99, u100, u101, u102, u103, u104, u105, u106, u107, u108, u109, u110, u111, u112, u113, u114, u115, u116, u117, u118, u119, u120, u121, u122, u123, u124, u125], []⟩ W := by
  cases hA : selsB S <;> cases hB : tolsB L
  all_goals
    have HA : Hid (selsB S = _) := hA
    have HBB : Hid (tolsB L = _) := hB
    clear hA hB
    dsimp only
    conv => arg 2; whnf
    go_wp2_with fail
    refine (toSels_any a S ca (by omega) W HS.out).mono ?_
    rintro x W1 ⟨sa, sc, rfl, hs1, hb1⟩
    have S1 : Hid (SelsAt W1 sa S) := hs1
    have B1 : Hid (Below W.heap.size W W1) := hb1
    clear hs1 hb1
    go_wp2_with fail
    refine (toTols_any b L cb (by omega) W1 (HL.out.below B1.out)).mono ?_
    rintro x W2 ⟨ta, tc, rfl, ht2, hb2⟩
    have T2 : Hid (TolsAt W2 ta L) := ht2
    have S2 : Hid (SelsAt W2 sa S) := S1.out.below hb2
    have B2 : Hid (Below W.heap.size W W2) := B1.out.trans (hb2.mono B1.out.size)
    have F2 : Hid (F.answers W2.tape) := tape_of HF.out B2.out
    clear ht2 hb2 S1 B1
    go_wp2_with fail
    refine Calls.mono (zzval_any F fld hfl HT sa S sc ta L tc (by omega) (by omega) W2 F2.out S2.out T2.out) ?_
    rintro x W3 ⟨r3, rfl, he3, hb3⟩
    rw [HA.out, HBB.out] at he3
    have T3 : Hid (TolsAt W3 ta L) := T2.out.below hb3
    have S3 : Hid (SelsAt W3 sa S) := S2.out.below hb3
    have B3 : Hid (Below W.heap.size W W3) := B2.out.trans (hb3.mono B2.out.size)
    have F3 : Hid (F.answers W3.tape) := tape_of HF.out B3.out
    clear hb3 T2 S2 B2 F2
    first
      | (obtain rfl := errIf_true he3)
      | (obtain ⟨p3, rfl⟩ := errIf_false he3)
    clear he3
    go_wp2_with fail
    refine Calls.mono (zzval_any F fld hfl HT sa S sc none [] 0 (by omega) (by simp) W3 F3.out S3.out (tols_none _)) ?_
    rintro x W4 ⟨r4, rfl, he4, hb4⟩
    rw [HA.out] at he4
    have T4 : Hid (TolsAt W4 ta L) := T3.out.below hb4
    have B4 : Hid (Below W.heap.size W W4) := B3.out.trans (hb4.mono B3.out.size)
    have F4 : Hid (F.answers W4.tape) := tape_of HF.out B4.out
    clear hb4 T3 S3 B3 F3
    first
      | (obtain rfl := errIf_true he4)
      | (obtain ⟨p4, rfl⟩ := errIf_false he4)
    clear he4
    go_wp2_with fail
    refine Calls.mono (zzval_any F fld hfl HT none [] 0 ta L tc (by simp) (by omega) W4 F4.out (sels_none _) T4.out) ?_
    rintro x W5 ⟨r5, rfl, he5, hb5⟩
    rw [HBB.out] at he5
    have B5 : Hid (Below W.heap.size W W5) := B4.out.trans (hb5.mono B4.out.size)
    clear hb5 T4 B4 F4
    first
      | (obtain rfl := errIf_true he5)
      | (obtain ⟨p5, rfl⟩ := errIf_false he5)
    clear he5
    go_wp2_with fail
    refine Calls.mono (selsOK_any a S ca (by omega) W5 (HS.out.below B5.out)) ?_
    rintro x w5 ⟨rfl, hw5⟩
    subst hw5
    rw [HA.out]
    go_wp2_with fail
    refine Calls.mono (tolsOK_any b L cb (by omega) W5 (HL.out.below B5.out)) ?_
    rintro x W6 ⟨rfl, hb6⟩
    rw [HBB.out]
    have B6 : Hid (Below w.heap.size w W6) := (HB.out.trans (B5.out.mono HB.out.size)).trans (hb6.mono (Nat.le_trans HB.out.size B5.out.size))
    clear hb6
    go_wp2_with fail
    go_ret
    exact ⟨rfl, B6.out⟩
end Go.Proofs.Qxb6616224aFmt
