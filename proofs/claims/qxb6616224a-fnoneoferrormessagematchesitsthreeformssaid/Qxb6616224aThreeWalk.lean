/-
  FnOneOfErrorMessageMatchesItsThreeForms: its loops, its head.
-/
import Derived.Test.Qxb6616224aThreeTail
import Derived.Deep.DeepCutAuto
import Derived.Deep.CutBlock
namespace Go.Proofs.Qxb6616224a
open Go.RowKit

set_option maxRecDepth 100000 in
set_option maxHeartbeats 4000000 in
theorem aLoops (w : World) (fld wt : ByteArray) (hws : wt.size ≤ 1048576) (a b : Option Addr) (xs ys : List ByteArray) (ca cb : Nat) (HXs : Hid (Small (lists xs))) (HYs : Hid (Small (lists ys))) (t0 : Nat) (ht0 : t0 ≤ 1048576)
    (hX : StrsAt w a xs) (hY : StrsAt w b ys)
    (u4 u5 u6 u7 u8 u10 u11 u12 u13 u14 u15 u16 u17 u18 u19 u20 u21 u22 u23 u24 u25 u26 u27 u28 u29 u30 u31 u32 u33 u34 u35 u36 u37 u38 u39 u40 u41 u42 u43 u44 u45 u46 u47 u48 u49 u50 u51 u52 u53 u54 u55 u56 u57 u58 u59 u60 u61 u62 u63 u64 u65 u66 u67 u68 u69 u70 u71 u72 u73 u74 u75 u76 u77 u78 u79 u80 u81 u82 u83 u84 u85 u86 u87 u88 u89 u90 u91 u92 u93 u94 u95 u96 u97 : Value) :
    Code.wp Try.prog (codeFrom 6 Try.f3) (bodyPost Try.prog Try.f3 fun e w' => e = .returned (.bool true) ∧ Below w.heap.size w w')
      ⟨#[.string fld, .slice a xs.length ca, .string wt, .slice b ys.length cb, u4, u5, u6, u7, u8, .int .i64 (t0 : Int), u10, u11, u12, u13, u14, u15, u16, u17, u18, u19, u20, u21, u22, u23, u24, u25, u26, u27, u28, u29, u30, u31, u32, u33, u34, u35, u36, u37, u38, u39, u40, u41, u42, u43, u44, u45, u46, u47, u48, u49, u50, u51, u52, u53, u54, u55, u56, u57, u58, u59, u60, u61, u62, u63, u64, u65, u66, u67, u68, u69, u70, u71, u72, u73, u74, u75, u76, u77, u78, u79, u80, u81, u82, u83, u84, u85, u86, u87, u88, u89, u90, u91, u92, u93, u94, u95, u96, u97], []⟩ w := by
  have hxn : xs.length ≤ 1048576 := by have := HXs.out.1; rw [lists_len] at this; exact this
  have hyn : ys.length ≤ 1048576 := by have := HYs.out.1; rw [lists_len] at this; exact this
  dsimp only
  conv => arg 2; whnf
  go_wp2_with fail
  go_loop [9, 10] (fun z i => ∃ k n : Nat, k ≤ xs.length ∧ i = .int .i64 k ∧ z = .int .i64 n ∧ n ≤ 1048576) (fun _ i => xs.length - (intOf i).toNat)
  case atStart => exact ⟨0, t0, Nat.zero_le _, rfl, rfl, ht0⟩
  case round =>
    clear ht0
    obtain ⟨k, n, hk, rfl, rfl, hnn⟩ := hrel
    by_cases hlt : k < xs.length
    · obtain ⟨sb, so, rfl, hsb, hc⟩ := hX k hlt
      have he := HXs.out.2 k
      rw [lists_getD] at he
      obtain ⟨s, hs⟩ : ∃ s, xs.getD k ⟨#[]⟩ = s := ⟨_, rfl⟩
      rw [hs] at hc he
      have he2 : s.size ≤ 1048576 := by simpa using he
      clear hs he hX hY
      by_cases h8 : (n : Int) + (16 + (s.size : Int)) ≤ 1048576
      · go_wp2
        go_round
        case rel => exact ⟨k + 1, n + (16 + s.size), by omega, by go_num, by go_num, by omega⟩
        case measure => simp [intOf]; omega
      · go_wp2
        go_ret
        exact ⟨rfl, Below.refl _ _⟩
    · go_upto_block 2 with fail
      go_cut [] from 27 to 97 (fun wx => wx = w)
      case first =>
        go_wp2_with fail
        go_loop [9, 11] (fun z i => ∃ k n : Nat, k ≤ ys.length ∧ i = .int .i64 k ∧ z = .int .i64 n ∧ n ≤ 1048576) (fun _ i => ys.length - (intOf i).toNat)
        case atStart => exact ⟨0, n, Nat.zero_le _, rfl, rfl, hnn⟩
        case round =>
          clear hnn hlt hk
          obtain ⟨k, n, hk, rfl, rfl, hnn⟩ := hrel
          by_cases hlt : k < ys.length
          · obtain ⟨sb, so, rfl, hsb, hc⟩ := hY k hlt
            have he := HYs.out.2 k
            rw [lists_getD] at he
            obtain ⟨s, hs⟩ : ∃ s, ys.getD k ⟨#[]⟩ = s := ⟨_, rfl⟩
            rw [hs] at hc he
            have he2 : s.size ≤ 1048576 := by simpa using he
            clear hs he hX hY
            by_cases h8 : (n : Int) + (16 + (s.size : Int)) ≤ 1048576
            · go_wp2
              go_round
              case rel => exact ⟨k + 1, n + (16 + s.size), by omega, by go_num, by go_num, by omega⟩
              case measure => simp [intOf]; omega
            · go_wp2
              go_ret
              exact ⟨rfl, Below.refl _ _⟩
          · clear hX hY
            go_wp2
            go_meet
            rfl
      case rest =>
      subst hcut
      by_cases h0 : xs.length = 0
      · clear hX hY
        go_wp2_with fail
        go_ret
        exact ⟨rfl, Below.refl _ _⟩
      · have h1 : 0 < xs.length := by omega
        have Hk : Hid (k ≤ xs.length ∧ ¬ k < xs.length) := ⟨hk, hlt⟩
        clear h0 hk hlt
        go_upto_if 61 with fail
        go_cut [] from 27 to 97 (fun wx => wx = wc)
        case first =>
          go_wp2_with fail
          go_meet
          rfl
        case rest =>
        subst hcut
        go_step
        exact aTail _ _ fld wt hws a b xs ys ca cb h1 HXs HYs (Below.refl _ _) hX hY _ _ _ _ _ _ _ _ _ _ _ _ _ _ _ _ _ _ _ _ _ _ _ _ _ _ _ _ _ _ _ _ _ _ _ _ _ _ _ _ _ _ _ _ _ _ _ _ _ _ _ _ _ _ _ _ _ _ _ _ _ _ _ _ _ _ _ _ _ _ _ _ _ _ _ _ _ _ _ _ _ _ _ _ _ _ _ _ _ _ _ _ _ _

set_option maxRecDepth 100000 in
set_option maxHeartbeats 4000000 in
theorem a_walk (w : World) (fld wt : ByteArray) (a b : Option Addr) (xs ys : List ByteArray) (ca cb : Nat) (hfl : fld.size ≤ maxLen) (hwl : wt.size ≤ maxLen) (hxl : xs.length ≤ maxLen) (hyl : ys.length ≤ maxLen) (hX : StrsAt w a xs) (hY : StrsAt w b ys) :
    Calls Try.prog 3 #[.string fld, .slice a xs.length ca, .string wt, .slice b ys.length cb] w fun e w' => e = .returned (.bool true) ∧ Below w.heap.size w w' := by
  go_enter Try.func3, Try.ntmps3
  go_wp2_with fail
  refine (bytes5 fld wt a xs ca b ys cb w hfl hwl hxl hyl hX hY).mono ?_
  rintro x w' ⟨hx, hw'⟩
  subst hw'
  clear hfl hwl hxl hyl
  rcases hx with rfl | ⟨rfl, hsm⟩
  · go_wp2_with fail
    go_ret
    exact ⟨rfl, Below.refl _ _⟩
  · have HXs : Hid (Small (lists xs)) := hsm.x
    have HYs : Hid (Small (lists ys)) := hsm.y
    have hf2 := hsm.f
    have ho2 := hsm.w
    clear hsm
    by_cases h20 : fld.size + wt.size ≤ 1048576
    · go_upto_if 26 with fail
      go_cut [9] from 14 to 97 (fun z wx => z = .int .i64 ((fld.size + wt.size : Nat) : Int) ∧ wx = w)
      case first =>
        go_wp2_with fail
        go_meet
        exact ⟨by go_num, rfl⟩
      case rest =>
      obtain ⟨rfl, hwc⟩ := hcut
      subst hwc
      go_step
      exact aLoops _ fld wt ho2 a b xs ys ca cb HXs HYs _ h20 hX hY _ _ _ _ _ _ _ _ _ _ _ _ _ _ _ _ _ _ _ _ _ _ _ _ _ _ _ _ _ _ _ _ _ _ _ _ _ _ _ _ _ _ _ _ _ _ _ _ _ _ _ _ _ _ _ _ _ _ _ _ _ _ _ _ _ _ _ _ _ _ _ _ _ _ _ _ _ _ _ _ _ _ _ _ _ _ _ _ _ _ _ _ _
    · go_wp2_with fail
      go_ret
      exact ⟨rfl, Below.refl _ _⟩
end Go.Proofs.Qxb6616224a
