/-
  FnGrowOccupies.., from its region 29 on: the loop over the two new tables.
-/
import Derived.Test.Qxb6616132aGrowWalk
import Derived.Test.Qxb6616132aTail
import Derived.Deep.DeepCutAuto
import Derived.Deep.Light
import Derived.Deep.QuietTactic
import Derived.BigQuiet
namespace Go.Proofs.Qxb6616132a
open Go.RowKit

theorem occ_at {g h : List Int} {m : Nat} (hg : g.length = m) (hh : h.length = m) (ho : occ g = occ h) (j : Nat) (hj : j < m) : (g.getD j 0 == 0) = (h.getD j 0 == 0) := by
  have h1 := occ_getD g j (by omega)
  have h2 := occ_getD h j (by omega)
  rw [ho, h2] at h1
  cases e1 : g.getD j 0 == 0 <;> cases e2 : h.getD j 0 == 0 <;> simp_all

set_option maxRecDepth 100000 in
set_option maxHeartbeats 4000000 in
theorem occPartL (w W : World) (b1 b2 n tk : Nat) (g1 g2 : List Int) (hn1 : n ≤ 1048576) (HB : Hid (Below w.heap.size w W))
    (H1 : Hid (g1.length = 2 * n)) (H2 : Hid (g2.length = 2 * n)) (R1 : Hid (RowU W b1 0 g1)) (R2 : Hid (RowU W b2 0 g2)) (HO : Hid (occ g1 = occ g2)) (HC : Hid (cntU g1 = tk))
    (u0 u1 u2 u3 u4 u7 u8 u9 u10 u11 u14 u15 u16 u17 u18 u19 u20 u21 u22 u23 u24 u25 u26 u27 u28 u29 u30 u31 u32 u33 u34 u35 u36 u37 u38 u39 u40 u41 u42 u43 u44 u45 u46 u47 u48 u49 u50 u51 u52 u53 u54 u55 u56 u57 u58 u59 u60 u61 u62 u63 u64 u65 u66 u67 u68 u69 u70 u71 u72 u73 u74 u75 u76 u77 u78 u79 u80 u81 u82 u83 u84 u85 u86 u87 u88 u89 u90 u91 u92 u93 u94 u95 u96 u97 u98 u99 u100 u101 u102 u103 u104 u105 u106 u107 u108 u109 u110 u111 u112 u113 u114 u115 u116 u117 u118 u119 u120 u121 u122 u123 u124 u125 u126 u127 u128 u129 u130 : Value) :
    Code.wp Try.prog (codeFrom 29 Try.f5) (bodyPost Try.prog Try.f5 fun e w' => e = .returned (.bool true) ∧ Below w.heap.size w w')
      ⟨#[u0, u1, u2, u3, u4, .int .i64 n, .int .i64 tk, u7, u8, u9, u10, u11, .slice (some ⟨b1, 0, none⟩) (2 * n) (2 * n), .slice (some ⟨b2, 0, none⟩) (2 * n) (2 * n), u14, u15, u16, u17, u18, u19, u20, u21, u22, u23, u24, u25, u26, u27, u28, u29, u30, u31, u32, u33, u34, u35, u36, u37, u38, u39, u40, u41, u42, u43, u44, u45, u46, u47, u48, u49, u50, u51, u52, u53, u54, u55, u56, u57, u58, u59, u60, u61, u62, u63, u64, u65, u66, u67, u68, u69, u70, u71, u72, u73, u74, u75, u76, u77, u78, u79, u80, u81, u82, u83, u84, u85, u86, u87, u88, u89, u90, u91, u92, u93, u94, u95, u96, u97, u98, u99, u100, u101, u102, u103, u104, u105, u106, u107, u108, u109, u110, u111, u112, u113, u114, u115, u116, u117, u118, u119, u120, u121, u122, u123, u124, u125, u126, u127, u128, u129, u130], []⟩ W := by
  dsimp only
  conv => arg 2; whnf
  go_wp2
  go_loopw [14, 15] (fun c i wr => ∃ j d : Nat, j ≤ 2 * n ∧ i = .int .i64 j ∧ c = .int .i64 (cntU (g1.take j)) ∧ wr = W.drewN d) (fun _ i _ => 2 * n - (intOf i).toNat)
  case atStart => exact ⟨0, 0, Nat.zero_le _, rfl, by simp [cntU], rfl⟩
  case round =>
    obtain ⟨j, d, hj, rfl, rfl, rfl⟩ := hrel
    have hcl := cnt_le (g1.take j)
    rw [List.length_take] at hcl
    by_cases hlt : j < 2 * n
    · have hji : (j : Int) < 2 * (n : Int) := by omega
      have hc1 := R1.out j (by rw [H1.out]; exact hlt)
      have hc2 := R2.out j (by rw [H2.out]; exact hlt)
      rw [Nat.zero_add] at hc1 hc2
      have heq := occ_at H1.out H2.out HO.out j hlt
      have hst := cnt_take g1 j (by rw [H1.out]; exact hlt)
      obtain ⟨x, hx⟩ : ∃ x, g1.getD j 0 = x := ⟨_, rfl⟩
      obtain ⟨y, hy⟩ : ∃ y, g2.getD j 0 = y := ⟨_, rfl⟩
      rw [hx] at hc1 heq hst
      rw [hy] at hc2 heq
      have HS : Hid (cntU (g1.take (j + 1)) = cntU (g1.take j) + if (x != 0) = true then 1 else 0) := hst
      clear hst hx hy
      by_cases hx0 : x = 0
      · have hxb : (x == 0) = true := by simp [hx0]
        have hyb : (y == 0) = true := by rw [← heq]; exact hxb
        have hxn : (x != 0) = false := by simp [hx0]
        have HS2 : Hid (cntU (g1.take (j + 1)) = cntU (g1.take j)) := by rw [HS.out, if_neg (by rw [hxn]; decide)]; rfl
        clear heq hx0 HS
        go_wp2
        go_quiet (fail)
        go_wp2
        go_roundw
        case rel => exact ⟨j + 1, d + nq, by omega, by go_num, congrArg (fun c : Nat => Value.int .i64 (c : Int)) HS2.out.symm, rfl⟩
        case measure => simp [intOf]; omega
      · have hxb : (x == 0) = false := by simp [hx0]
        have hyb : (y == 0) = false := by rw [← heq]; exact hxb
        have hxn : (x != 0) = true := by simp [hx0]
        have HS2 : Hid (cntU (g1.take (j + 1)) = cntU (g1.take j) + 1) := by rw [HS.out, if_pos hxn]; rfl
        clear heq hx0 HS
        go_wp2
        go_quiet (fail)
        go_wp2
        go_roundw
        case rel => exact ⟨j + 1, d + nq, by omega, by go_num, congrArg _ (by rw [HS2.out]; omega), rfl⟩
        case measure => simp [intOf]; omega
    · have hjn : j = 2 * n := by omega
      subst hjn
      have hfin : cntU (g1.take (2 * n)) = tk := by rw [List.take_of_length_le (by rw [H1.out]; exact Nat.le_refl _)]; exact HC.out
      have HF : Hid (cntU (g1.take (2 * n)) = tk) := hfin
      clear hfin
      go_wp2
      go_ret
      exact ⟨ret_bool (by rw [HF.out]; simp), below_drewN HB.out _⟩
end Go.Proofs.Qxb6616132a
