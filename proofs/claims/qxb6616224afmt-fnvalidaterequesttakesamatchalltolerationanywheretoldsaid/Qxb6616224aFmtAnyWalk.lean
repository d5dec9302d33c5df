/-
  FnValidateRequestTakesAMatchAllTolerationAnywhere: its loops, its head.
-/
import Derived.Test.Qxb6616224aFmtAnyMid
import Derived.Deep.QuietTactic
import Derived.BigQuiet
namespace Go.Proofs.Qxb6616224aFmt
open Go.RowKit Go.Extern.Stop Go.Stop Go.Extern

set_option maxRecDepth 100000 in
set_option maxHeartbeats 4000000 in
theorem anyLoops (F : Interp) (HT : Hid (ShortT F)) (w : World) (fld oth : ByteArray) (hfl : fld.size ≤ 1048576) (hol : oth.size ≤ 1048576) (a b : Option Addr) (S : List (Option ByteArray)) (L : List TolP) (ca cb : Nat) (HSm : Hid (SmallIn S L)) (hn : S.length ≤ 1048576) (hm : L.length ≤ 1048576) (pos : Int) (hcap : L.length ≤ cb) (hnil : b = none → cb = 0) (t0 : Nat) (ht0 : t0 ≤ 1048576)
    (HF : Hid (F.answers w.tape)) (hS : SelsAt w a S) (hL : TolsAt w b L)
    (u5 u6 u7 u8 u9 u10 u12 u13 u14 u15 u16 u17 u18 u19 u20 u21 u22 u23 u24 u25 u26 u27 u28 u29 u30 u31 u32 u33 u34 u35 u36 u37 u38 u39 u40 u41 u42 u43 u44 u45 u46 u47 u48 u49 u50 u51 u52 u53 u54 u55 u56 u57 u58 u59 u60 u61 u62 u63 u64 u65 u66 u67 u68 u69 u70 u71 u72 u73 u74 u75 u76 u77 u78 u79 u80 u81 u82 u83 u84 u85 u86 u87 u88 u89 u90 u91 u92 u93 u94 u95 u96 u97 u98 u99 u100 u101 u102 u103 u104 u105 u106 u107 u108 u109 u110 u111 u112 u113 u114 u115 u116 u117 u118 u119 u120 u121 u122 u123 u124 u125 u126 u127 u128 u129 u130 u131 u132 u133 u134 u135 u136 u137 u138 u139 u140 u141 u142 u143 u144 u145 u146 u147 u148 u149 u150 u151 u152 u153 u154 : Value) :
    Code.wp Tryf.prog (codeFrom 6 Tryf.f4) (bodyPost Tryf.prog Tryf.f4 fun e w' => e = .returned (.bool true) ∧ Below w.heap.size w w')
      ⟨#[.string fld, .string oth, .slice a S.length ca, .slice b L.length cb, .int .i64 pos, u5, u6, u7, u8, u9, u10, .int .i64 (t0 : Int), u12, u13, u14, u15, u16, u17, u18, u19, u20, u21, u22, u23, u24, u25, u26, u27, u28, u29, u30, u31, u32, u33, u34, u35, u36, u37, u38, u39, u40, u41, u42, u43, u44, u45, u46, u47, u48, u49, u50, u51, u52, u53, u54, u55, u56, u57, u58, u59, u60, u61, u62, u63, u64, u65, u66, u67, u68, u69, u70, u71, u72, u73, u74, u75, u76, u77, u78, u79, u80, u81, u82, u83, u84, u85, u86, u87, u88, u89, u90, u91, u92, u93, u94, u95, u96, u97, u98, u99, u100, u101, u102, u103, u104, u105, u106, u107, u108, u109, u110, u111, u112, u113, u114, u115, u116, u117, u118, u119, u120, u121, u122, u123, u124, u125, u126, u127, u128, u129, u130, u131, u132, u133, u134, u135, u136, u137, u138, u139, u140, u141, u142, u143, u144, u145, u146, u147, u148, u149, u150, u151, u152, u153, u154], []⟩ w := by
  have Hc : Hid (L.length ≤ cb ∧ (b = none → cb = 0)) := ⟨hcap, hnil⟩
  clear hcap hnil
  dsimp only
  conv => arg 2; whnf
  go_wp2_with fail
  go_loop [11, 12] (fun z i => ∃ k n : Nat, k ≤ S.length ∧ i = .int .i64 k ∧ z = .int .i64 n ∧ n ≤ 1048576) (fun _ i => S.length - (intOf i).toNat)
  case atStart => exact ⟨0, t0, Nat.zero_le _, rfl, rfl, ht0⟩
  case round =>
    clear ht0
    obtain ⟨k, n, hk, rfl, rfl, hnn⟩ := hrel
    by_cases hlt : k < S.length
    · obtain ⟨sb, so, c, rfl, hsb, hc, hsel⟩ := hS k hlt
      have hsm := HSm.out.hs k hlt
      obtain ⟨s, hs⟩ : ∃ s, S.getD k none = s := ⟨_, rfl⟩
      rw [hs] at hsel hsm
      clear hs
      rcases hsel with ⟨rfl, rfl⟩ | ⟨pb, po, e, rfl, rfl, hpb, hpc⟩
      · clear hsm hS hL
        obtain ⟨m8, hm8⟩ : ∃ m8 : Nat, (n : Int) + 8 = (m8 : Int) := ⟨n + 8, by omega⟩
        by_cases h8 : m8 ≤ 1048576
        · go_wp2
          go_round
          case rel => exact ⟨k + 1, m8, by omega, by go_num, rfl, h8⟩
          case measure => simp [intOf]; omega
        · go_wp2
          go_ret
          exact ⟨rfl, Below.refl _ _⟩
      · have he := hsm e rfl
        clear hsm hS hL
        by_cases h8 : (n : Int) + 8 + (e.size : Int) ≤ 1048576
        · go_wp2
          go_round
          case rel => exact ⟨k + 1, n + 8 + e.size, by omega, by go_num, by go_num, by omega⟩
          case measure => simp [intOf]; omega
        · go_wp2
          go_ret
          exact ⟨rfl, Below.refl _ _⟩
    · go_upto_block 2 with fail
      go_cut [] from 31 to 154 (fun wx => ∃ d, wx = w.drewN d)
      case first =>
        go_wp2_with fail
        go_loopw [11, 13] (fun z i wr => ∃ k n d : Nat, k ≤ L.length ∧ i = .int .i64 k ∧ z = .int .i64 n ∧ n ≤ 1048576 ∧ wr = w.drewN d) (fun _ i _ => L.length - (intOf i).toNat)
        case atStart => exact ⟨0, n, 0, Nat.zero_le _, rfl, rfl, hnn, rfl⟩
        case round =>
          clear hnn hlt hk
          obtain ⟨k, n, d, hk, rfl, rfl, hnn, rfl⟩ := hrel
          by_cases hlt : k < L.length
          · obtain ⟨tb, tof, rfl, htb, hT⟩ := hL k hlt
            have hsm := HSm.out.hl k hlt
            obtain ⟨t, ht⟩ : ∃ t, L.getD k tolZ = t := ⟨_, rfl⟩
            rw [ht] at hT hsm
            have hc0 := hT.c0
            have hc1 := hT.c1
            have hc2 := hT.c2
            have hc3 := hT.c3
            obtain ⟨q0, q1, q2, q3⟩ := hsm
            have hki : (k : Int) < (L.length : Int) := by omega
            clear ht hL hT hS
            by_cases h72 : (n : Int) + (72 + (t.k.size : Int) + (t.o.size : Int) + (t.v.size : Int) + (t.e.size : Int)) ≤ 1048576
            · go_wp2
              go_quiet (fail)
              go_wp2
              go_roundw
              case rel => exact ⟨k + 1, n + (72 + t.k.size + t.o.size + t.v.size + t.e.size), d + nq, by omega, by go_num, by go_num, by omega, rfl⟩
              case measure => simp [intOf]; omega
            · go_wp2
              go_quiet (fail)
              go_wp2
              go_ret
              exact ⟨rfl, below_drewN (Below.refl _ _) _⟩
          · clear hL hS
            go_wp2
            go_meet
            exact ⟨d, rfl⟩
      case rest =>
      obtain ⟨d, rfl⟩ := hcut
      go_step
      have hB : Below w.heap.size w (w.drewN d) := below_drewN (Below.refl _ _) _
      exact anyMid F HT w (w.drewN d) fld oth hfl hol a b S L ca cb hn hm pos Hc.out.1 Hc.out.2 HF.out hB (hS.below hB) (hL.below hB) _ _ _ _ _ _ _ _ _ _ _ _ _ _ _ _ _ _ _ _ _ _ _ _ _ _ _ _ _ _ _ _ _ _ _ _ _ _ _ _ _ _ _ _ _ _ _ _ _ _ _ _ _ _ _ _ _ _ _ _ _ _ _ _ _ _ _ _ _ _ _ _ _ _ _ _ _ _ _ _ _ _ _ _ _ _ _ _ _ _ _ _ _ _ _ _ _ _ _ _ _ _ _ _ _ _ _ _ _ _ _ _ _ _ _ _ _ _ _ _ _ _ _ _ _ _ _ _ _ _ _ _ _ _ _ _ _ _ _ _ _ _ _ _ _ _ _ _ _ _

set_option maxRecDepth 100000 in
set_option maxHeartbeats 4000000 in
theorem any_walk (F : Interp) (HT : Hid (ShortT F)) (w : World) (fld oth : ByteArray) (a b : Option Addr) (S : List (Option ByteArray)) (L : List TolP) (ca cb : Nat) (pos : Int) (hfl : fld.size ≤ maxLen) (hol : oth.size ≤ maxLen) (hSl : S.length ≤ maxLen) (hLl : L.length ≤ maxLen)
    (hcap : L.length ≤ cb) (hnil : b = none → cb = 0) (HF : Hid (F.answers w.tape)) (hS : SelsAt w a S) (hL : TolsAt w b L) :
    Calls Tryf.prog 4 #[.string fld, .string oth, .slice a S.length ca, .slice b L.length cb, .int .i64 pos] w fun e w' => e = .returned (.bool true) ∧ Below w.heap.size w w' := by
  have Hc : Hid (L.length ≤ cb ∧ (b = none → cb = 0)) := ⟨hcap, hnil⟩
  clear hcap hnil
  go_enter Tryf.func4, Tryf.ntmps4
  go_wp2_with fail
  refine (bytes11 fld oth pos a S ca b L cb w hfl hol hSl hLl hS hL).mono ?_
  rintro x w' ⟨hx, hw'⟩
  subst hw'
  clear hfl hol hSl hLl
  rcases hx with rfl | ⟨rfl, hsm⟩
  · go_wp2_with fail
    go_ret
    exact ⟨rfl, Below.refl _ _⟩
  · have HSm : Hid (SmallIn S L) := hsm.sm
    have hf2 := hsm.f
    have ho2 := hsm.o
    clear hsm
    by_cases h20 : fld.size + oth.size ≤ 1048576
    · go_upto_if 30 with fail
      go_cut [11] from 17 to 154 (fun z wx => z = .int .i64 ((fld.size + oth.size : Nat) : Int) ∧ wx = w)
      case first =>
        go_wp2_with fail
        go_meet
        exact ⟨by go_num, rfl⟩
      case rest =>
      obtain ⟨rfl, hwc⟩ := hcut
      subst hwc
      go_step
      exact anyLoops F HT _ fld oth hf2 ho2 a b S L ca cb HSm HSm.out.ls HSm.out.ll pos Hc.out.1 Hc.out.2 _ h20 HF hS hL _ _ _ _ _ _ _ _ _ _ _ _ _ _ _ _ _ _ _ _ _ _ _ _ _ _ _ _ _ _ _ _ _ _ _ _ _ _ _ _ _ _ _ _ _ _ _ _ _ _ _ _ _ _ _ _ _ _ _ _ _ _ _ _ _ _ _ _ _ _ _ _ _ _ _ _ _ _ _ _ _ _ _ _ _ _ _ _ _ _ _ _ _ _ _ _ _ _ _ _ _ _ _ _ _ _ _ _ _ _ _ _ _ _ _ _ _ _ _ _ _ _ _ _ _ _ _ _ _ _ _ _ _ _ _ _ _ _ _ _ _ _ _ _ _ _ _ _ _
    · go_wp2_with fail
      go_ret
      exact ⟨rfl, Below.refl _ _⟩
end Go.Proofs.Qxb6616224aFmt
