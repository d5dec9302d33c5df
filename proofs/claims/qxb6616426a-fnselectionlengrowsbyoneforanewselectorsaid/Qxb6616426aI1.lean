/-
  THE WALKS of zzFirstAt, zzDistinct, zzContains.
-/
import Derived.Test.Qxb6616426aI0
import Derived.Deep.QuietTactic
import Derived.BigQuiet
namespace Go.Proofs.Qxb6616426a
open Go.RowKit

theorem ret_bool {a b : Bool} (h : a = b) : Ending.returned (.bool a) = .returned (.bool b) := by rw [h]
theorem ret_int {a b : Int} (h : a = b) : Ending.returned (.int .i64 a) = .returned (.int .i64 b) := by rw [h]
theorem firstB_true {xs : List ByteArray} {k : Nat} (h : ∀ j, j < k → xs.getD j ⟨#[]⟩ ≠ xs.getD k ⟨#[]⟩) : firstB xs k = true := by
  exact firstB_new (by rintro ⟨j, hj, e⟩; exact h j hj e)
theorem firstB_false {xs : List ByteArray} {k j : Nat} (hj : j < k) (h : xs.getD j ⟨#[]⟩ = xs.getD k ⟨#[]⟩) : firstB xs k = false := by
  exact firstB_seen ⟨j, hj, h⟩
theorem bytes_inj {a b : ByteArray} (h : a.data.toList = b.data.toList) : a = b := by
  apply ByteArray.ext
  apply Array.ext'
  exact h
theorem ne_toList {x y : ByteArray} (h : ¬ x = y) : (x.toList == y.toList) = false := by
  rw [ByteArray.toList_eq, ByteArray.toList_eq, beq_eq_false_iff_ne]
  intro e
  exact h (bytes_inj e)
theorem upto_succ {P : Nat → Prop} {k : Nat} (h : ∀ j, j < k → P j) (hk : P k) : ∀ j, j < k + 1 → P j := by
  intro j hj
  by_cases e : j = k
  · subst e; exact hk
  · exact h j (by omega)

set_option maxRecDepth 4000 in
set_option maxHeartbeats 800000 in
theorem firstAt_any (a : Option Addr) (xs : List ByteArray) (cap i : Nat) (hn : xs.length ≤ 1048577) (hi : i < xs.length) (w : World) (hS : StrsAt w a xs) :
    Calls Try.prog 13 #[.slice a xs.length cap, .int .i64 i] w fun x w' => x = .returned (.bool (firstB xs i)) ∧ Below w.heap.size w w' := by
  go_enter Try.func13, Try.ntmps13
  go_wp2
  go_loopw [5] (fun j wr => ∃ k d : Nat, k ≤ i ∧ j = .int .i64 k ∧ Hid (∀ j, j < k → xs.getD j ⟨#[]⟩ ≠ xs.getD i ⟨#[]⟩) ∧ wr = w.drewN d) (fun j _ => i - (intOf j).toNat)
  case atStart => exact ⟨0, 0, Nat.zero_le _, rfl, fun j hj => absurd hj (by omega), rfl⟩
  case round =>
    obtain ⟨k, d, hk, rfl, HA, rfl⟩ := hrel
    by_cases hlt : k < i
    · obtain ⟨b, off, rfl, hb, hc⟩ := hS k (by omega)
      obtain ⟨b', off', e', _, hc'⟩ := hS i hi
      cases e'
      obtain ⟨x, hx⟩ : ∃ x, xs.getD k ⟨#[]⟩ = x := ⟨_, rfl⟩
      obtain ⟨y, hy⟩ : ∃ y, xs.getD i ⟨#[]⟩ = y := ⟨_, rfl⟩
      rw [hx] at hc
      rw [hy] at hc'
      have hki : (k : Int) < (xs.length : Int) := by omega
      have hii : (i : Int) < (xs.length : Int) := by omega
      by_cases e : x = y
      · subst e
        have HF : Hid (firstB xs i = false) := firstB_false hlt (hx.trans hy.symm)
        clear hx hy hS
        go_wp2
        go_quiet (fail)
        go_wp2
        go_ret
        exact ⟨ret_bool HF.out.symm, below_drewN (below_drewN (Below.refl _ _) _) _⟩
      · have HN : Hid (∀ j, j < k + 1 → xs.getD j ⟨#[]⟩ ≠ xs.getD i ⟨#[]⟩) := upto_succ HA.out (by rw [hx, hy]; exact e)
        have hne := ne_toList e
        clear hx hy hS e
        go_wp2
        go_quiet (fail)
        go_wp2
        go_roundw
        case rel => exact ⟨k + 1, d + nq, by omega, by go_num, HN, rfl⟩
        case measure => simp [intOf]; omega
    · have hki : k = i := by omega
      subst hki
      have HF : Hid (firstB xs k = true) := firstB_true HA.out
      clear hS
      go_wp2
      go_ret
      exact ⟨ret_bool HF.out.symm, below_drewN (Below.refl _ _) _⟩

set_option maxRecDepth 4000 in
set_option maxHeartbeats 800000 in
theorem distinct_any (a : Option Addr) (xs : List ByteArray) (cap : Nat) (hn : xs.length ≤ 1048577) (w : World) (hS : StrsAt w a xs) :
    Calls Try.prog 9 #[.slice a xs.length cap] w fun x w' => x = .returned (.int .i64 (dists xs : Int)) ∧ Below w.heap.size w w' := by
  go_enter Try.func9, Try.ntmps9
  go_wp2
  go_loopw [3, 4, 7] (fun z _ j wr => ∃ k m : Nat, k ≤ xs.length ∧ j = .int .i64 k ∧ z = .int .i64 m ∧ m ≤ k ∧ Hid (dist xs k = m) ∧ Hid (Below w.heap.size w wr)) (fun _ _ j _ => xs.length - (intOf j).toNat)
  case atStart => exact ⟨0, 0, Nat.zero_le _, rfl, rfl, Nat.le_refl _, rfl, Below.refl _ _⟩
  case round =>
    obtain ⟨k, m, hk, rfl, rfl, hmk, HD, HB⟩ := hrel
    by_cases hlt : k < xs.length
    · have HS : Hid (StrsAt wr a xs) := hS.below HB.out
      clear hS
      go_wp2_with fail
      refine Calls.mono (firstAt_any a xs cap k hn hlt wr HS.out) ?_
      rintro x w' ⟨rfl, hb⟩
      have HB' : Hid (Below w.heap.size w w') := HB.out.trans (hb.mono HB.out.size)
      clear hb
      cases hf : firstB xs k
      · have HD' : Hid (dist xs (k + 1) = m) := by rw [Hid, dist, HD.out, hf]; rfl
        clear hf
        go_wp2_with fail
        go_roundw
        case rel => exact ⟨k + 1, m, by omega, by go_num, rfl, by omega, HD', HB'⟩
        case measure => simp [intOf]; omega
      · have HD' : Hid (dist xs (k + 1) = m + 1) := by rw [Hid, dist, HD.out, hf]; rfl
        clear hf
        go_wp2_with fail
        go_roundw
        case rel => exact ⟨k + 1, m + 1, by omega, by go_num, by go_num, by omega, HD', HB'⟩
        case measure => simp [intOf]; omega
    · have hkx : k = xs.length := by omega
      subst hkx
      clear hS
      go_wp2
      go_ret
      exact ⟨ret_int (by rw [dists, HD.out]), HB.out⟩

/-- Is it among them? -/
def ContOut (xs : List ByteArray) (x : ByteArray) (e : Ending) : Prop := (e = .returned (.bool true) ∧ seen xs xs.length x) ∨ (e = .returned (.bool false) ∧ ¬ seen xs xs.length x)
set_option maxRecDepth 4000 in
set_option maxHeartbeats 800000 in
theorem contains_any (a : Option Addr) (xs : List ByteArray) (cap : Nat) (x : ByteArray) (hn : xs.length ≤ 1048577) (w : World) (hS : StrsAt w a xs) :
    Calls Try.prog 7 #[.slice a xs.length cap, .string x] w fun e w' => ContOut xs x e ∧ w = w' := by
  go_enter Try.func7, Try.ntmps7
  go_wp2
  go_loop [6, 9] (fun _ j => ∃ k : Nat, k ≤ xs.length ∧ j = .int .i64 k ∧ Hid (∀ j, j < k → ¬ xs.getD j ⟨#[]⟩ = x)) (fun _ j => xs.length - (intOf j).toNat)
  case atStart => exact ⟨0, Nat.zero_le _, rfl, fun j hj => absurd hj (by omega)⟩
  case round =>
    obtain ⟨k, hk, rfl, HA⟩ := hrel
    by_cases hlt : k < xs.length
    · obtain ⟨b, off, rfl, hb, hc⟩ := hS k hlt
      obtain ⟨y, hy⟩ : ∃ y, xs.getD k ⟨#[]⟩ = y := ⟨_, rfl⟩
      rw [hy] at hc
      by_cases e : y = x
      · subst e
        have HS : Hid (seen xs xs.length y) := ⟨k, hlt, hy⟩
        clear hy hS
        go_wp2
        go_ret
        exact ⟨Or.inl ⟨rfl, HS.out⟩, rfl⟩
      · have HN : Hid (∀ j, j < k + 1 → ¬ xs.getD j ⟨#[]⟩ = x) := upto_succ HA.out (by rw [hy]; exact e)
        have hne := ne_toList e
        clear hy hS e
        go_wp2
        go_round
        case rel => exact ⟨k + 1, by omega, by go_num, HN⟩
        case measure => simp [intOf]; omega
    · have hkx : k = xs.length := by omega
      subst hkx
      have HS : Hid (¬ seen xs xs.length x) := by rintro ⟨j, hj, e⟩; exact HA.out j hj e
      clear hS
      go_wp2
      go_ret
      exact ⟨Or.inr ⟨rfl, HS.out⟩, rfl⟩
end Go.Proofs.Qxb6616426a
