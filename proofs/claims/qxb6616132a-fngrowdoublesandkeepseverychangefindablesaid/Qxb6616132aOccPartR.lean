/-
  FnGrowOccupies.., from its region 15 on: the reversed copy.
-/
import Derived.Test.Qxb6616132aOccPartG
import Derived.Deep.CutBlock
namespace Go.Proofs.Qxb6616132a
open Go.RowKit

theorem rev_step (Z : List Int) (n k : Nat) (hn : Z.length = n) (h : k < n) : (cellsU (cpU Z.reverse k)).setIfInBounds k (.int .u64 (Z.getD (n - 1 - k) 0)) = cellsU (cpU Z.reverse (k + 1)) := by
  have h1 : k < Z.reverse.length := by rw [List.length_reverse]; omega
  rw [← cpU_step Z.reverse k h1, ← rev_getD Z k n hn h, List.getD_eq_getElem?_getD, List.getElem?_eq_getElem h1]
  rfl

set_option maxRecDepth 100000 in
set_option maxHeartbeats 4000000 in
theorem occPartR (w W : World) (bi n q tk tc : Nat) (ta : Option Addr) (Z T : List Int) (hn0 : 0 < n) (hn1 : n ≤ 1048576) (ht1 : T.length ≤ 1048576)
    (HZ : Hid (Z.length = n)) (HQ : Hid (2 * n = 2 ^ q ∧ q ≤ 62)) (HK : Hid (knownB T.length Z = true)) (HF : Hid (FitU Z ∧ FitU T)) (HC : Hid (cntU Z = tk)) (HB : Hid (Below w.heap.size w W))
    (HR1 : Hid (RowU W bi 0 Z ∧ bi < W.heap.size ∧ w.heap.size ≤ bi)) (HS1 : Hid (SlU W ta T))
    (u2 u3 u4 u7 u8 u9 u10 u11 u12 u13 u14 u15 u16 u17 u18 u19 u20 u21 u22 u23 u24 u25 u26 u27 u28 u29 u30 u31 u32 u33 u34 u35 u36 u37 u38 u39 u40 u41 u42 u43 u44 u45 u46 u47 u48 u49 u50 u51 u52 u53 u54 u55 u56 u57 u58 u59 u60 u61 u62 u63 u64 u65 u66 u67 u68 u69 u70 u71 u72 u73 u74 u75 u76 u77 u78 u79 u80 u81 u82 u83 u84 u85 u86 u87 u88 u89 u90 u91 u92 u93 u94 u95 u96 u97 u98 u99 u100 u101 u102 u103 u104 u105 u106 u107 u108 u109 u110 u111 u112 u113 u114 u115 u116 u117 u118 u119 u120 u121 u122 u123 u124 u125 u126 u127 u128 u129 u130 : Value) :
    Code.wp Try.prog (codeFrom 15 Try.f5) (bodyPost Try.prog Try.f5 fun e w' => e = .returned (.bool true) ∧ Below w.heap.size w w')
      ⟨#[.slice (some ⟨bi, 0, none⟩) n n, .slice ta T.length tc, u2, u3, u4, .int .i64 n, .int .i64 tk, u7, u8, u9, u10, u11, u12, u13, u14, u15, u16, u17, u18, u19, u20, u21, u22, u23, u24, u25, u26, u27, u28, u29, u30, u31, u32, u33, u34, u35, u36, u37, u38, u39, u40, u41, u42, u43, u44, u45, u46, u47, u48, u49, u50, u51, u52, u53, u54, u55, u56, u57, u58, u59, u60, u61, u62, u63, u64, u65, u66, u67, u68, u69, u70, u71, u72, u73, u74, u75, u76, u77, u78, u79, u80, u81, u82, u83, u84, u85, u86, u87, u88, u89, u90, u91, u92, u93, u94, u95, u96, u97, u98, u99, u100, u101, u102, u103, u104, u105, u106, u107, u108, u109, u110, u111, u112, u113, u114, u115, u116, u117, u118, u119, u120, u121, u122, u123, u124, u125, u126, u127, u128, u129, u130], []⟩ W := by
  have hmk := make_u64 n (by omega)
  have hbi := HR1.out.2.1
  dsimp only
  conv => arg 2; whnf
  go_upto_block 0 with fail
  go_cut [8] from 16 to 130 (fun _ wx => wx = W.alloc (.cells (cellsU Z.reverse) 39))
  case first =>
    go_wp2_with fail
    go_loopw [8] (fun i wr => ∃ k : Nat, k ≤ n ∧ i = .int .i64 k ∧ wr = W.alloc (.cells (cellsU (cpU Z.reverse k)) 39)) (fun i _ => n - (intOf i).toNat)
    case atStart => exact ⟨0, Nat.zero_le _, rfl, by rw [cpU_zero, List.length_reverse, HZ.out]⟩
    case round =>
      obtain ⟨k, hk, rfl, rfl⟩ := hrel
      by_cases hlt : k < n
      · have hck := HR1.out.1 (n - 1 - k) (by rw [HZ.out]; omega)
        rw [Nat.zero_add] at hck
        have hin : ((n : Int) - 1 - (k : Int)).toNat = n - 1 - k := by omega
        have hi1 : 0 ≤ (n : Int) - 1 - (k : Int) := by omega
        have hi2 : (n : Int) - 1 - (k : Int) < (n : Int) := by omega
        obtain ⟨v0, hv0⟩ := cpU_get Z.reverse k (by rw [List.length_reverse, HZ.out]; exact hlt)
        have HS := rev_step Z n k HZ.out hlt
        obtain ⟨z, hz⟩ : ∃ z, Z.getD (n - 1 - k) 0 = z := ⟨_, rfl⟩
        rw [hz] at hck HS
        replace HS : Hid ((cellsU (cpU Z.reverse k)).setIfInBounds k (.int .u64 z) = cellsU (cpU Z.reverse (k + 1))) := HS
        clear hz hmk
        go_wp2
        go_roundw
        case rel => exact ⟨k + 1, by omega, by go_num, by rw [← HS.out]⟩
        case measure => simp [intOf]; omega
      · have hkn : k = n := by omega
        subst hkn
        have HE : Hid (cpU Z.reverse k = Z.reverse) := by
          have := cpU_end Z.reverse
          rw [List.length_reverse, HZ.out] at this
          exact this
        clear hmk
        go_wp2
        go_meet
        rw [HE.out]
  case rest =>
  have B1 : Hid (Below W.heap.size W wc) := by rw [hcut]; exact (Below.refl _ _).alloc (Nat.le_refl _) _
  have N1 : Hid (RowU wc W.heap.size 0 Z.reverse) := by rw [hcut]; exact RowU.new W _
  have S1 : Hid (W.heap.size < wc.heap.size) := by rw [hcut]; exact (by simp : W.heap.size < (W.alloc (.cells (cellsU Z.reverse) 39)).heap.size)
  clear hcut hmk
  obtain ⟨Wr, hWr⟩ : ∃ x, x = wc := ⟨_, rfl⟩
  subst hWr
  go_upto_region 20 with fail
  go_cut [9] from 16 to 130 (fun s wx => ∃ tb, s = .slice tb T.length T.length ∧ Hid (SlU wx tb T ∧ Below Wr.heap.size Wr wx))
  case first =>
    go_wp2_with fail
    refine (clone_any ta T tc (by omega) _ (HS1.out.below B1.out)).mono ?_
    rintro e W2 ⟨tb, rfl, hs2, hb2⟩
    go_wp2_with fail
    go_meet
    exact ⟨tb, rfl, hs2, hb2⟩
  case rest =>
  obtain ⟨tb, rfl, HS2⟩ := hcut
  have B2 := HS2.out.2
  have BW : Below W.heap.size W wc := B1.out.trans (B2.mono B1.out.size)
  have h1 := B2.size
  have h2 := S1.out
  have h3 := HB.out.size
  go_step
  exact occPartG w wc bi W.heap.size n q tk tc T.length ta tb Z T hn0 hn1 ht1 HZ HQ HK HF HC (HB.out.trans (BW.mono h3)) ⟨HR1.out.1.below BW HR1.out.2.1, Nat.lt_of_lt_of_le HR1.out.2.1 BW.size, HR1.out.2.2⟩ ⟨N1.out.below B2 h2, by omega, h3⟩ (HS1.out.below BW) HS2.out.1 _ _ _ _ _ _ _ _ _ _ _ _ _ _ _ _ _ _ _ _ _ _ _ _ _ _ _ _ _ _ _ _ _ _ _ _ _ _ _ _ _ _ _ _ _ _ _ _ _ _ _ _ _ _ _ _ _ _ _ _ _ _ _ _ _ _ _ _ _ _ _ _ _ _ _ _ _ _ _ _ _ _ _ _ _ _ _ _ _ _ _ _ _ _ _ _ _ _ _ _ _ _ _ _ _ _ _ _ _ _ _ _ _ _ _ _ _ _ _ _ _ _ _ _ _
end Go.Proofs.Qxb6616132a
