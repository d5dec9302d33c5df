/-
  FnWinsFoldIsOrderFree's walk, from its head to its region 21.
-/
import Derived.Test.Qxb6616132aFoldMore
import Derived.Test.Qxb6616132aTail
import Derived.Deep.DeepCutAuto
import Derived.Deep.Light
import Derived.Test.Qxb6616132aFoldPartB1
namespace Go.Proofs.Qxb6616132a
open Go.RowKit

set_option maxRecDepth 100000 in
set_option maxHeartbeats 8000000 in
theorem foldLaw_walk (a0 : Int) (a1 : ByteArray) (a2 : Int) (a3 : Int) (a4 : ByteArray) (a5 : Int) (a6 : Int) (a7 : ByteArray) (a8 : Int) (w1 : a1.size ≤ maxLen) (w4 : a4.size ≤ maxLen) (w7 : a7.size ≤ maxLen) (w : World) :
    Calls Try.prog 3 #[.int .u8 a0, .string a1, .int .i64 a2, .int .u8 a3, .string a4, .int .i64 a5, .int .u8 a6, .string a7, .int .i64 a8] w fun e w' => e = .returned (.bool true) ∧ Below w.heap.size w w' := by
  by_cases hsz : 1048576 < a1.size + a4.size + a7.size
  · go_enter Try.func3, Try.ntmps3
    go_wp2_with (go_at_call 6; refine (bytesW_no _ _ _ _ _ _ _ _ _ _ w1 w4 w7 hsz).mono ?_; rintro e w' ⟨rfl, rfl⟩)
    go_ret
    exact ⟨rfl, Below.refl _ _⟩
  have hle : a1.size + a4.size + a7.size ≤ 1048576 := by omega
  clear hsz w1 w4 w7
  obtain ⟨m, hm⟩ : ∃ m, fold3 ⟨a1, a2, a0 == 3⟩ ⟨a4, a5, a3 == 3⟩ ⟨a7, a8, a6 == 3⟩ = m := ⟨_, rfl⟩
  have HM : Hid (fold3 ⟨a1, a2, a0 == 3⟩ ⟨a4, a5, a3 == 3⟩ ⟨a7, a8, a6 == 3⟩ = m) := hm
  have ht1 := fold_t1 ⟨a1, a2, a0 == 3⟩ ⟨a4, a5, a3 == 3⟩ ⟨a7, a8, a6 == 3⟩
  have ht2 := fold_t2 ⟨a1, a2, a0 == 3⟩ ⟨a4, a5, a3 == 3⟩ ⟨a7, a8, a6 == 3⟩
  have ht3 := fold_t3 ⟨a1, a2, a0 == 3⟩ ⟨a4, a5, a3 == 3⟩ ⟨a7, a8, a6 == 3⟩
  have hor := fold3_or ⟨a1, a2, a0 == 3⟩ ⟨a4, a5, a3 == 3⟩ ⟨a7, a8, a6 == 3⟩
  have hn1 := fold3_x ⟨a1, a2, a0 == 3⟩ ⟨a4, a5, a3 == 3⟩ ⟨a7, a8, a6 == 3⟩
  have hn2 := fold3_y ⟨a1, a2, a0 == 3⟩ ⟨a4, a5, a3 == 3⟩ ⟨a7, a8, a6 == 3⟩
  have hn3 := fold3_z ⟨a1, a2, a0 == 3⟩ ⟨a4, a5, a3 == 3⟩ ⟨a7, a8, a6 == 3⟩
  rw [hm] at ht1 ht2 ht3 hor hn1 hn2 hn3
  clear hm
  obtain ⟨mv, mt, mp⟩ := m
  simp only at ht1 ht2 ht3
  have htt : mt = a2 ∨ mt = a5 ∨ mt = a8 := by rcases hor with h | h | h <;> simp only [Wn.mk.injEq] at h <;> simp [h]
  have HO : Hid ((⟨mv, mt, mp⟩ : Wn) = ⟨a1, a2, a0 == 3⟩ ∨ (⟨mv, mt, mp⟩ : Wn) = ⟨a4, a5, a3 == 3⟩ ∨ (⟨mv, mt, mp⟩ : Wn) = ⟨a7, a8, a6 == 3⟩) := hor
  have HN1 : Hid (beatsB ⟨a1, a2, a0 == 3⟩ ⟨mv, mt, mp⟩ = false) := hn1
  have HN2 : Hid (beatsB ⟨a4, a5, a3 == 3⟩ ⟨mv, mt, mp⟩ = false) := hn2
  have HN3 : Hid (beatsB ⟨a7, a8, a6 == 3⟩ ⟨mv, mt, mp⟩ = false) := hn3
  have HT : Hid (mt = a2 ∨ mt = a5 ∨ mt = a8) := htt
  clear hor hn1 hn2 hn3 htt
  go_enter Try.func3, Try.ntmps3
  go_wp2_with (go_at_call 6; refine (bytesW_yes _ _ _ _ _ _ _ _ _ _ hle).mono ?_; rintro e w' ⟨rfl, rfl⟩)
  refine (fold_any _ _ _ _ _ _ _ _ _ _).mono ?_
  rintro e wa ⟨rfl, hba⟩
  rw [HM.out]
  obtain ⟨hca, hfa⟩ := bcell hba
  have hz1 : w.heap.size < wa.heap.size := by have := hba.size; simp at this; omega
  have hz2 : w.heap.size + 1 < wa.heap.size := by have := hba.size; simp at this; omega
  have hz3 : w.heap.size + 1 + 1 < wa.heap.size := by have := hba.size; simp at this; omega
  have h0 : Below w.heap.size w wa := ((((Below.refl _ _).alloc (Nat.le_refl _) _).alloc (by simp) _).alloc (by simp; omega) _).trans (hba.mono (by simp; omega))
  have HB := hba
  clear h0 hca hfa hz1 hz2 hz3
  replace HB : Hid (Below _ _ wa) := HB
  clear hba
  go_upto_if 112 with fail
  go_cut [29] (fun s wx => (∃ x : Int, s = .int .i64 x ∧ a2 ≤ x ∧ a5 ≤ x ∧ x ≤ mt) ∧ wx = wa)
  case first =>
    go_wp2_with fail
    all_goals
      go_meet
      exact ⟨⟨_, rfl, by omega, by omega, by omega⟩, rfl⟩
  case rest =>
  obtain ⟨⟨x, rfl, hx1, hx2, hx3⟩, rfl⟩ := hcut
  go_upto_if 116 with fail
  go_cut [29] (fun s wx => s = .int .i64 mt ∧ wx = wc)
  case first =>
    have := HT.out
    go_wp2_with fail
    all_goals
      go_meet
      exact ⟨congrArg _ (by omega), rfl⟩
  case rest =>
  obtain ⟨rfl, rfl⟩ := hcut
  clear hx1 hx2 hx3
  go_upto_if 120 with fail
  go_cut [] (fun wx => wx = wc)
  case first =>
    go_wp2_with fail
    go_meet
    rfl
  case rest =>
  subst hcut
  go_step
  exact foldPartB1 w _ a0 a2 a3 a5 a6 a8 a1 a4 a7 mv mt mp HM HB _ _ _ _ _ _ _ _ _ _ _ _ _ _ _ _ _ _ _ _ _ _ _ _ _ _ _ _ _ _ _ _ _ _ _ _ _ _ _ _ _ _ _ _ _ _ _ _ _ _ _ _ _ _ _ _ _ _ _ _ _ _ _ _ _ _ _ _ _ _ _ _ _ _ _ _ _ _ _ _ _ _ _ _ _ _ _ _ _ _ _ _ _ _ _ _ _ _ _ _ _ _ _ _ _ _ _ _ _ _ _ _ _ _ _ _ _ _ _ _ _ _ _ _ _ _ _ _ _ _ _ _ _ _ _ _ _ _ _ _ _ _ _ _ _ _ _ _ _ _ _ _ _ _ _ _ _ _ _ _ _ _ _ _ _ _ _ _ _ _ _ _ _ _ _ _ _ _ _ _ _ _ _ _ _ _ _ _ _ _ _ _ _ _ _ _ _ _ _ _ _ _ _ _ _ _ _ _ _ _ _ _ _ _ _ _ _ _ _ _ _ _ _ _ _ _ _ _ _ _ _ _ _ _ _
end Go.Proofs.Qxb6616132a
