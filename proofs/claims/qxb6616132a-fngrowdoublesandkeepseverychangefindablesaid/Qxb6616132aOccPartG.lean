/-
  FnGrowOccupies.., from its region 21 on: the two Pendings, the two grows.
-/
import Derived.Test.Qxb6616132aGrowMore
import Derived.Test.Qxb6616132aOccPartL
namespace Go.Proofs.Qxb6616132a
open Go.RowKit

set_option maxRecDepth 100000 in
set_option maxHeartbeats 4000000 in
theorem occPartG (w W : World) (bi br n q tk tc td : Nat) (ta tb : Option Addr) (Z T : List Int) (hn0 : 0 < n) (hn1 : n ≤ 1048576) (ht1 : T.length ≤ 1048576)
    (HZ : Hid (Z.length = n)) (HQ : Hid (2 * n = 2 ^ q ∧ q ≤ 62)) (HK : Hid (knownB T.length Z = true)) (HF : Hid (FitU Z ∧ FitU T)) (HC : Hid (cntU Z = tk)) (HB : Hid (Below w.heap.size w W))
    (HR1 : Hid (RowU W bi 0 Z ∧ bi < W.heap.size ∧ w.heap.size ≤ bi)) (HR2 : Hid (RowU W br 0 Z.reverse ∧ br < W.heap.size ∧ w.heap.size ≤ br)) (HS1 : Hid (SlU W ta T)) (HS2 : Hid (SlU W tb T))
    (u2 u3 u4 u8 u10 u11 u12 u13 u14 u15 u16 u17 u18 u19 u20 u21 u22 u23 u24 u25 u26 u27 u28 u29 u30 u31 u32 u33 u34 u35 u36 u37 u38 u39 u40 u41 u42 u43 u44 u45 u46 u47 u48 u49 u50 u51 u52 u53 u54 u55 u56 u57 u58 u59 u60 u61 u62 u63 u64 u65 u66 u67 u68 u69 u70 u71 u72 u73 u74 u75 u76 u77 u78 u79 u80 u81 u82 u83 u84 u85 u86 u87 u88 u89 u90 u91 u92 u93 u94 u95 u96 u97 u98 u99 u100 u101 u102 u103 u104 u105 u106 u107 u108 u109 u110 u111 u112 u113 u114 u115 u116 u117 u118 u119 u120 u121 u122 u123 u124 u125 u126 u127 u128 u129 u130 : Value) :
    Code.wp Try.prog (codeFrom 21 Try.f5) (bodyPost Try.prog Try.f5 fun e w' => e = .returned (.bool true) ∧ Below w.heap.size w w')
      ⟨#[.slice (some ⟨bi, 0, none⟩) n n, .slice ta T.length tc, u2, u3, u4, .int .i64 n, .int .i64 tk, .slice (some ⟨br, 0, none⟩) n n, u8, .slice tb T.length td, u10, u11, u12, u13, u14, u15, u16, u17, u18, u19, u20, u21, u22, u23, u24, u25, u26, u27, u28, u29, u30, u31, u32, u33, u34, u35, u36, u37, u38, u39, u40, u41, u42, u43, u44, u45, u46, u47, u48, u49, u50, u51, u52, u53, u54, u55, u56, u57, u58, u59, u60, u61, u62, u63, u64, u65, u66, u67, u68, u69, u70, u71, u72, u73, u74, u75, u76, u77, u78, u79, u80, u81, u82, u83, u84, u85, u86, u87, u88, u89, u90, u91, u92, u93, u94, u95, u96, u97, u98, u99, u100, u101, u102, u103, u104, u105, u106, u107, u108, u109, u110, u111, u112, u113, u114, u115, u116, u117, u118, u119, u120, u121, u122, u123, u124, u125, u126, u127, u128, u129, u130], []⟩ W := by
  have hws : Hid (w.heap.size ≤ W.heap.size) := HB.out.size
  dsimp only
  conv => arg 2; whnf
  go_wp2_with fail
  refine (newPending (some ⟨bi, 0, none⟩) n n ta T tc (by omega) W HS1.out).mono ?_
  rintro e W1 ⟨rfl, C1, hC1, hW1⟩
  have P1 : PendAt W1 (W.heap.size + 1) W.heap.size T (.slice (some ⟨bi, 0, none⟩) n n) := by rw [hW1]; exact pend_new W C1 T _ hC1
  have B1 : Hid (Below W.heap.size W W1) := by rw [hW1]; exact ((Below.refl _ _).alloc (Nat.le_refl _) _).alloc (by simp) _
  have S1 : Hid (W1.heap.size = W.heap.size + 1 + 1) := by rw [hW1]; simp [Hid]
  clear hW1 hC1 C1
  go_wp2_with fail
  refine (newPending (some ⟨br, 0, none⟩) n n tb T td (by omega) W1 (HS2.out.below B1.out)).mono ?_
  rintro e W2 ⟨rfl, C2, hC2, hW2⟩
  have P2 : PendAt W2 (W1.heap.size + 1) W1.heap.size T (.slice (some ⟨br, 0, none⟩) n n) := by rw [hW2]; exact pend_new W1 C2 T _ hC2
  have B2 : Hid (Below W1.heap.size W1 W2) := by rw [hW2]; exact ((Below.refl _ _).alloc (Nat.le_refl _) _).alloc (by simp) _
  have S2 : Hid (W2.heap.size = W1.heap.size + 1 + 1) := by rw [hW2]; simp [Hid]
  clear hW2 hC2 C2
  replace P1 := P1.below B2.out
  have B02 : Hid (Below W.heap.size W W2) := B1.out.trans (B2.out.mono B1.out.size)
  have R1 : Hid (RowU W2 bi 0 Z) := HR1.out.1.below B02.out HR1.out.2.1
  have R2 : Hid (RowU W2 br 0 Z.reverse) := HR2.out.1.below B02.out HR2.out.2.1
  go_wp2_with fail
  refine (zzgrow_at P1 q Z HZ.out HQ.out.1 HQ.out.2 hn0 hn1 ht1 (by have := HR1.out.2.1; have := S1.out; have := S2.out; omega) (by have := HR1.out.2.1; omega) R1.out HK.out HF.out.1 HF.out.2).mono ?_
  rintro e W3 ⟨rfl, hW3⟩
  have lo0 : W.heap.size + 1 < W2.heap.size := by have := S1.out; have := S2.out; omega
  have lo : Hid (W.heap.size + 1 < W2.heap.size) := lo0
  clear lo0
  have N1 : Hid (RowU W3 W2.heap.size 0 (growU (homeU T (2 * n)) (2 * n) Z)) := by rw [hW3]; exact grown_row _ _ _ _
  have Q1 : Hid (W3.cell? ⟨W.heap.size + 1, 3, none⟩ = some (.slice (some ⟨W2.heap.size, 0, none⟩) (2 * n) (2 * n))) := by rw [hW3]; exact grown_p3 _ _ _ _ _ P1.lp P1.p3
  replace P2 : PendAt W3 (W1.heap.size + 1) W1.heap.size T (.slice (some ⟨br, 0, none⟩) n n) := by rw [hW3]; exact P2.grown _ _ _ (by have := S1.out; omega) (by have := S1.out; omega)
  replace R2 : Hid (RowU W3 br 0 Z.reverse) := by rw [hW3]; exact R2.out.grown _ _ _ (by have := HR2.out.2.1; have := lo.out; omega) (by have := HR2.out.2.1; omega)
  have S3 : Hid (W3.heap.size = W2.heap.size + 1) := by rw [hW3]; exact grown_size _ _ _ _
  have B3 : Hid (Below w.heap.size W2 W3) := by rw [hW3]; exact grown_below _ _ _ _ _ (by have := hws.out; omega) (by have := hws.out; have := lo.out; omega)
  clear hW3 R1 P1
  go_wp2_with fail
  refine (zzgrow_at P2 q Z.reverse (by rw [List.length_reverse]; exact HZ.out) HQ.out.1 HQ.out.2 hn0 hn1 ht1 (by have := HR2.out.2.1; have := lo.out; have := S3.out; omega) (by have := HR2.out.2.1; have := S1.out; omega) R2.out (by rw [known_reverse]; exact HK.out) (fit_reverse HF.out.1) HF.out.2).mono ?_
  rintro e W4 ⟨rfl, hW4⟩
  have N2 : Hid (RowU W4 W3.heap.size 0 (growU (homeU T (2 * n)) (2 * n) Z.reverse)) := by rw [hW4]; exact grown_row _ _ _ _
  have Q2 : Hid (W4.cell? ⟨W1.heap.size + 1, 3, none⟩ = some (.slice (some ⟨W3.heap.size, 0, none⟩) (2 * n) (2 * n))) := by rw [hW4]; exact grown_p3 _ _ _ _ _ P2.lp P2.p3
  replace N1 : Hid (RowU W4 W2.heap.size 0 (growU (homeU T (2 * n)) (2 * n) Z)) := by rw [hW4]; exact N1.out.grown _ _ _ (by have := S3.out; omega) (by have := S2.out; omega)
  replace Q1 : Hid (W4.cell? ⟨W.heap.size + 1, 3, none⟩ = some (.slice (some ⟨W2.heap.size, 0, none⟩) (2 * n) (2 * n))) := by
    rw [hW4, grown_cell _ _ _ _ _ _ (by have := lo.out; have := S3.out; omega) (by have := S1.out; omega)]; exact Q1.out
  have B4 : Hid (Below w.heap.size W3 W4) := by rw [hW4]; exact grown_below _ _ _ _ _ (by have := hws.out; have := S1.out; omega) (by have := hws.out; have := lo.out; have := S3.out; omega)
  clear hW4 R2 P2
  go_wp2_with fail
  refine (pendIndex (W.heap.size + 1) _ W4 Q1.out).mono ?_
  rintro e w' ⟨rfl, hw'⟩
  subst hw'
  go_wp2_with fail
  refine (pendIndex (W1.heap.size + 1) _ W4 Q2.out).mono ?_
  rintro e w' ⟨rfl, hw'⟩
  subst hw'
  have BB : Hid (Below w.heap.size w W4) := ((HB.out.trans (B02.out.mono hws.out)).trans B3.out).trans B4.out
  go_upto_if 103 with fail
  go_cut [] from 16 to 130 (fun wx => wx = W4)
  case first =>
    go_wp2_with fail
    go_meet
    rfl
  case rest =>
  subst hcut
  go_step
  exact occPartL w wc W2.heap.size W3.heap.size n tk (growU (homeU T (2 * n)) (2 * n) Z) (growU (homeU T (2 * n)) (2 * n) Z.reverse) hn1 BB (growU_length _ _ _) (growU_length _ _ _) N1 N2 (occ_reverse _ _ _).symm ((cnt_growU _ _ _ (by rw [HZ.out]; omega)).trans HC.out) _ _ _ _ _ _ _ _ _ _ _ _ _ _ _ _ _ _ _ _ _ _ _ _ _ _ _ _ _ _ _ _ _ _ _ _ _ _ _ _ _ _ _ _ _ _ _ _ _ _ _ _ _ _ _ _ _ _ _ _ _ _ _ _ _ _ _ _ _ _ _ _ _ _ _ _ _ _ _ _ _ _ _ _ _ _ _ _ _ _ _ _ _ _ _ _ _ _ _ _ _ _ _ _ _ _ _ _ _ _ _ _ _ _ _ _ _ _ _ _ _ _ _ _ _ _ _
end Go.Proofs.Qxb6616132a
