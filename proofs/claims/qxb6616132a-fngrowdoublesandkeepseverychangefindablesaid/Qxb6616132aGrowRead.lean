/-
  THE WALKS of namesKnownB1 and countNonzeroB1.
-/
import Derived.Test.Qxb6616132aU
import Derived.Test.Qxb6616132aBits
import Derived.Test.Qxb6616132aGrowLaw
namespace Go.Proofs.Qxb6616132a
open Go.RowKit

/-- A slot names a change that exists, or is empty. -/
def okB (m : Nat) (z : Int) : Bool := z == 0 || (z % 4294967296 != 0 && decide (z % 4294967296 ≤ (m : Int)))
def knownB (m : Nat) (zs : List Int) : Bool := zs.all (okB m)

theorem known_no {m : Nat} {zs : List Int} {k : Nat} (h : k < zs.length) (hk : okB m (zs.getD k 0) = false) : knownB m zs = false := by
  unfold knownB
  rw [List.all_eq_false]
  refine ⟨zs.getD k 0, ?_, by rw [hk]; decide⟩
  simp [List.getD_eq_getElem?_getD, h]
theorem known_yes {m : Nat} {zs : List Int} (h : ∀ i, i < zs.length → okB m (zs.getD i 0) = true) : knownB m zs = true := by
  unfold knownB
  rw [List.all_eq_true]
  intro z hz
  obtain ⟨i, hi, rfl⟩ := List.getElem_of_mem hz
  have := h i hi
  simpa [List.getD_eq_getElem?_getD, hi] using this
theorem known_at {m : Nat} {zs : List Int} (h : knownB m zs = true) (i : Nat) (hi : i < zs.length) : okB m (zs.getD i 0) = true := by
  unfold knownB at h
  rw [List.all_eq_true] at h
  exact h _ (by simp [List.getD_eq_getElem?_getD, hi])

/-- Every element fits uint64. -/
def FitU (zs : List Int) : Prop := ∀ i, 0 ≤ zs.getD i 0 ∧ zs.getD i 0 < 18446744073709551616

theorem ret_bool {a b : Bool} (h : a = b) : Ending.returned (.bool a) = .returned (.bool b) := by rw [h]
theorem ret_int {k : IntKind} {a b : Int} (h : a = b) : Ending.returned (.int k a) = .returned (.int k b) := by rw [h]

set_option maxRecDepth 4000 in
set_option maxHeartbeats 800000 in
theorem known_some (b off : Nat) (zs : List Int) (cap m : Nat) (hn : zs.length ≤ 1073741824) (hm : m ≤ 1073741824) (hw : FitU zs) (w : World) (hc : RowU w b off zs) :
    Calls Try.prog 11 #[.slice (some ⟨b, off, none⟩) zs.length cap, .int .i64 m] w fun e w' => e = .returned (.bool (knownB m zs)) ∧ w = w' := by
  go_enter Try.func11, Try.ntmps11
  go_wp2
  go_loop [5, 6, 7] (fun i _ _ => ∃ k : Nat, k ≤ zs.length ∧ i = .int .i64 k ∧ ∀ j, j < k → okB m (zs.getD j 0) = true) (fun i _ _ => zs.length - (intOf i).toNat)
  case atStart => exact ⟨0, Nat.zero_le _, rfl, fun j hj => absurd hj (by omega)⟩
  case round =>
    obtain ⟨k, hk, rfl, hall⟩ := hrel
    have HA : Hid (∀ j, j < k → okB m (zs.getD j 0) = true) := hall
    clear hall
    by_cases hlt : k < zs.length
    · have hck := hc k hlt
      have hwk := hw k
      obtain ⟨z, hz⟩ : ∃ z, zs.getD k 0 = z := ⟨_, rfl⟩
      rw [hz] at hck hwk
      obtain ⟨hwk1, hwk2⟩ := hwk
      have HL : Hid (bits .and .u64 z 4294967295 = z % 4294967296) := low32 z hwk1 hwk2
      have HZ : Hid (zs.getD k 0 = z) := hz
      clear hz hw hc
      have next : okB m z = true → ∀ j, j < k + 1 → okB m (zs.getD j 0) = true := by
        intro h j hj
        by_cases e : j = k
        · subst e; rw [HZ.out]; exact h
        · exact HA.out j (by omega)
      have NX : Hid (okB m z = true → ∀ j, j < k + 1 → okB m (zs.getD j 0) = true) := next
      have NO : Hid (okB m z = false → knownB m zs = false) := fun h => known_no hlt (by rw [HZ.out]; exact h)
      clear next
      go_wp2
      · go_round
        case rel =>
          have h0 : (z == 0) = true := by assumption
          exact ⟨k + 1, by omega, by go_num, NX.out (by simp [okB, h0])⟩
        case measure => simp [intOf]; omega
      · go_ret
        have h0 : (z == 0) = false := by assumption
        have h1 : bits BinOp.and IntKind.u64 z 4294967295 = 0 := by assumption
        rw [HL.out] at h1
        exact ⟨ret_bool (NO.out (by simp [okB, h0, h1])).symm, rfl⟩
      · go_ret
        have h0 : (z == 0) = false := by assumption
        have h1 : (bits BinOp.and IntKind.u64 z 4294967295 == 0) = true ∨ (m : Int) < bits BinOp.and IntKind.u64 z 4294967295 := by assumption
        rw [HL.out] at h1
        have h2 : okB m z = false := by
          rcases h1 with h1 | h1
          · have h1' : z % 4294967296 = 0 := by simpa using h1
            simp [okB, h0, h1']
          · have : ¬ z % 4294967296 ≤ (m : Int) := by omega
            simp [okB, h0, this]
        exact ⟨ret_bool (NO.out h2).symm, rfl⟩
      · go_round
        case rel =>
          have h0 : (z == 0) = false := by assumption
          have h1 : (bits BinOp.and IntKind.u64 z 4294967295 == 0) = false ∧ bits BinOp.and IntKind.u64 z 4294967295 ≤ (m : Int) := by assumption
          rw [HL.out] at h1
          refine ⟨k + 1, by omega, by go_num, NX.out ?_⟩
          have h2 : z % 4294967296 ≠ 0 := by simpa using h1.1
          simp [okB, h2, h1.2]
        case measure => simp [intOf]; omega
    · have hkz : k = zs.length := by omega
      subst hkz
      have hk := known_yes HA.out
      have HK : Hid (knownB m zs = true) := hk
      clear hk
      go_wp2
      go_ret
      exact ⟨ret_bool HK.out.symm, rfl⟩

set_option maxRecDepth 4000 in
set_option maxHeartbeats 800000 in
theorem count_some (b off : Nat) (zs : List Int) (cap : Nat) (hn : zs.length ≤ 1073741824) (w : World) (hc : RowU w b off zs) :
    Calls Try.prog 21 #[.slice (some ⟨b, off, none⟩) zs.length cap] w fun e w' => e = .returned (.int .i64 (cntU zs)) ∧ w = w' := by
  go_enter Try.func21, Try.ntmps21
  go_wp2
  go_loop [3, 4] (fun n i => ∃ k : Nat, k ≤ zs.length ∧ i = .int .i64 k ∧ n = .int .i64 (cntU (zs.take k))) (fun _ i => zs.length - (intOf i).toNat)
  case atStart => exact ⟨0, Nat.zero_le _, rfl, by simp [cntU]⟩
  case round =>
    obtain ⟨k, hk, rfl, rfl⟩ := hrel
    have hcl := cnt_le (zs.take k)
    rw [List.length_take] at hcl
    by_cases hlt : k < zs.length
    · have hck := hc k hlt
      have hst := cnt_take zs k hlt
      obtain ⟨z, hz⟩ : ∃ z, zs.getD k 0 = z := ⟨_, rfl⟩
      rw [hz] at hck hst
      have HS : Hid (cntU (zs.take (k + 1)) = cntU (zs.take k) + if (z != 0) = true then 1 else 0) := hst
      clear hst hz hc
      go_wp2
      all_goals
        go_round
        case rel =>
          refine ⟨k + 1, by omega, by go_num, ?_⟩
          rw [HS.out]
          first
            | (rw [if_pos (by assumption)]; go_num)
            | (rw [if_neg (by simp [show (z != 0) = false by assumption])]; go_num)
        case measure => simp [intOf]; omega
    · have hkz : k = zs.length := by omega
      subst hkz
      go_wp2
      go_ret
      exact ⟨ret_int (by simp), rfl⟩
end Go.Proofs.Qxb6616132a
