/-
  FnOneOfErrorMessageListsTheSameFieldsWhenAllAreSet: its loop, its head.
-/
import Derived.Test.Qxb6616224aSameTail
import Derived.Deep.DeepCutAuto
import Derived.Deep.CutBlock
namespace Go.Proofs.Qxb6616224a
open Go.RowKit

set_option maxRecDepth 100000 in
set_option maxHeartbeats 4000000 in
theorem bLoops (w : World) (fld wt : ByteArray) (hws : wt.size ≤ 1048576) (a : Option Addr) (xs : List ByteArray) (ca : Nat) (HXs : Hid (Small (lists xs))) (t0 : Nat) (ht0 : t0 ≤ 1048576)
    (hX : StrsAt w a xs)
    (u3 u4 u5 u6 u8 u9 u10 u11 u12 u13 u14 u15 u16 u17 u18 u19 u20 u21 u22 u23 u24 u25 u26 u27 u28 u29 u30 u31 u32 u33 u34 u35 u36 u37 u38 u39 u40 u41 u42 u43 u44 u45 u46 u47 u48 u49 u50 u51 u52 u53 u54 u55 u56 u57 u58 u59 u60 u61 u62 u63 u64 u65 u66 u67 u68 u69 u70 u71 u72 u73 u74 u75 u76 u77 u78 u79 u80 u81 u82 u83 u84 u85 u86 u87 u88 u89 u90 u91 u92 : Value) :
    Code.wp Try.prog (codeFrom 6 Try.f4) (bodyPost Try.prog Try.f4 fun e w' => e = .returned (.bool true) ∧ Below w.heap.size w w')
      ⟨#[.string fld, .slice a xs.length ca, .string wt, u3, u4, u5, u6, .int .i64 (t0 : Int), u8, u9, u10, u11, u12, u13, u14, u15, u16, u17, u18, u19, u20, u21, u22, u23, u24, u25, u26, u27, u28, u29, u30, u31, u32, u33, u34, u35, u36, u37, u38, u39, u40, u41, u42, u43, u44, u45, u46, u47, u48, u49, u50, u51, u52, u53, u54, u55, u56, u57, u58, u59, u60, u61, u62, u63, u64, u65, u66, u67, u68, u69, u70, u71, u72, u73, u74, u75, u76, u77, u78, u79, u80, u81, u82, u83, u84, u85, u86, u87, u88, u89, u90, u91, u92], []⟩ w := by
  have hxn : xs.length ≤ 1048576 := by have := HXs.out.1; rw [lists_len] at this; exact this
  dsimp only
  conv => arg 2; whnf
  go_wp2_with fail
  go_loop [7, 8] (fun z i => ∃ k n : Nat, k ≤ xs.length ∧ i = .int .i64 k ∧ z = .int .i64 n ∧ n ≤ 1048576) (fun _ i => xs.length - (intOf i).toNat)
  case atStart => exact ⟨0, t0, Nat.zero_le _, rfl, rfl, ht0⟩
  case round =>
    clear ht0
    obtain ⟨k, n, hk, rfl, rfl, hnn⟩ := hrel
    by_cases hlt : k < xs.length
    · obtain ⟨sb, so, rfl, hsb, hc⟩ := hX k hlt
      have he := HXs.out.2 k
      rw [lists_getD] at he
      obtain ⟨s, hs⟩ : ∃ s, xs.getD k ⟨#[]⟩ = s := ⟨_, rfl⟩
      rw [hs] at hc he
      have he2 : s.size ≤ 1048576 := by simpa using he
      clear hs he hX
      by_cases h8 : (n : Int) + (16 + (s.size : Int)) ≤ 1048576
      · go_wp2
        go_round
        case rel => exact ⟨k + 1, n + (16 + s.size), by omega, by go_num, by go_num, by omega⟩
        case measure => simp [intOf]; omega
      · go_wp2
        go_ret
        exact ⟨rfl, Below.refl _ _⟩
    · by_cases h0 : xs.length = 0
      · clear hX
        go_wp2_with fail
        go_ret
        exact ⟨rfl, Below.refl _ _⟩
      · have h1 : 0 < xs.length := by omega
        clear h0
        go_upto_if 42 with fail
        go_cut [] from 24 to 92 (fun wx => wx = w)
        case first =>
          go_wp2_with fail
          go_meet
          rfl
        case rest =>
        subst hcut
        go_step
        exact bTail _ _ fld wt hws a xs ca h1 HXs (Below.refl _ _) hX _ _ _ _ _ _ _ _ _ _ _ _ _ _ _ _ _ _ _ _ _ _ _ _ _ _ _ _ _ _ _ _ _ _ _ _ _ _ _ _ _ _ _ _ _ _ _ _ _ _ _ _ _ _ _ _ _ _ _ _ _ _ _ _ _ _ _ _ _ _ _ _ _ _ _ _ _ _ _ _ _ _ _ _ _ _ _ _ _ _

set_option maxRecDepth 100000 in
set_option maxHeartbeats 4000000 in
theorem b_walk (w : World) (fld wt : ByteArray) (a : Option Addr) (xs : List ByteArray) (ca : Nat) (hfl : fld.size ≤ maxLen) (hwl : wt.size ≤ maxLen) (hxl : xs.length ≤ maxLen) (hX : StrsAt w a xs) :
    Calls Try.prog 4 #[.string fld, .slice a xs.length ca, .string wt] w fun e w' => e = .returned (.bool true) ∧ Below w.heap.size w w' := by
  go_enter Try.func4, Try.ntmps4
  go_wp2_with fail
  refine (bytes8 fld wt a xs ca w hfl hwl hxl hX).mono ?_
  rintro x w' ⟨hx, hw'⟩
  subst hw'
  clear hfl hwl hxl
  rcases hx with rfl | ⟨rfl, hsm⟩
  · go_wp2_with fail
    go_ret
    exact ⟨rfl, Below.refl _ _⟩
  · have HXs : Hid (Small (lists xs)) := hsm.x
    have hf2 := hsm.f
    have ho2 := hsm.w
    clear hsm
    by_cases h20 : fld.size + wt.size ≤ 1048576
    · go_upto_if 23 with fail
      go_cut [7] from 12 to 92 (fun z wx => z = .int .i64 ((fld.size + wt.size : Nat) : Int) ∧ wx = w)
      case first =>
        go_wp2_with fail
        go_meet
        exact ⟨by go_num, rfl⟩
      case rest =>
      obtain ⟨rfl, hwc⟩ := hcut
      subst hwc
      go_step
      exact bLoops _ fld wt ho2 a xs ca HXs _ h20 hX _ _ _ _ _ _ _ _ _ _ _ _ _ _ _ _ _ _ _ _ _ _ _ _ _ _ _ _ _ _ _ _ _ _ _ _ _ _ _ _ _ _ _ _ _ _ _ _ _ _ _ _ _ _ _ _ _ _ _ _ _ _ _ _ _ _ _ _ _ _ _ _ _ _ _ _ _ _ _ _ _ _ _ _ _ _ _ _ _
    · go_wp2_with fail
      go_ret
      exact ⟨rfl, Below.refl _ _⟩
end Go.Proofs.Qxb6616224a
