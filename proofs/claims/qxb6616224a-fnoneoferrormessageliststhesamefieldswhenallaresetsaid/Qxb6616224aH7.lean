/-
  THE WALKS of the two byte bounds.
-/
import Derived.Test.Qxb6616224aH6
namespace Go.Proofs.Qxb6616224a
open Go.RowKit

/-- It says no; or it says yes, and then P. -/
def BOut (P : Prop) (x : Ending) : Prop := x = .returned (.bool false) ∨ (x = .returned (.bool true) ∧ P)
def Sm (s : ByteArray) : Prop := s.size ≤ 1048576
structure In8 (fld wt : ByteArray) (xs : List ByteArray) : Prop where
  f : fld.size ≤ 1048576
  w : wt.size ≤ 1048576
  x : Small (lists xs)
structure In5 (fld wt : ByteArray) (xs ys : List ByteArray) : Prop where
  f : fld.size ≤ 1048576
  w : wt.size ≤ 1048576
  x : Small (lists xs)
  y : Small (lists ys)
theorem upto_succ {P : Nat → Prop} {k : Nat} (h : ∀ j, j < k → P j) (hk : P k) : ∀ j, j < k + 1 → P j := by
  intro j hj
  by_cases e : j = k
  · subst e; exact hk
  · exact h j (by omega)
theorem small_of {xs : List ByteArray} (h1 : xs.length ≤ 1048576) (h2 : ∀ j, j < xs.length → Sm (xs.getD j ⟨#[]⟩)) : Small (lists xs) := by
  refine ⟨by rw [lists_len]; exact h1, fun i => ?_⟩
  rw [lists_getD]
  by_cases hi : i < xs.length
  · have h3 : (xs.getD i ⟨#[]⟩).size ≤ 1048576 := h2 i hi
    simpa using h3
  · rw [List.getD_eq_getElem?_getD, List.getElem?_eq_none (by omega)]
    simp

set_option maxRecDepth 100000 in
set_option maxHeartbeats 4000000 in
theorem bytes5 (fld wt : ByteArray) (a : Option Addr) (xs : List ByteArray) (ca : Nat) (b : Option Addr) (ys : List ByteArray) (cb : Nat) (w : World) (hf : fld.size ≤ maxLen) (hw : wt.size ≤ maxLen) (hxl : xs.length ≤ maxLen) (hyl : ys.length ≤ maxLen) (hX : StrsAt w a xs) (hY : StrsAt w b ys) :
    Calls Try.prog 5 #[.string fld, .slice a xs.length ca, .string wt, .slice b ys.length cb] w fun x w' => BOut (In5 fld wt xs ys) x ∧ w = w' := by
  unfold maxLen at hf hw hxl hyl
  go_enter Try.func5, Try.ntmps5
  by_cases hf2 : fld.size ≤ 1048576
  case neg =>
    go_wp2
    go_ret
    exact ⟨Or.inl rfl, rfl⟩
  by_cases hs2 : fld.size + xs.length ≤ 1048576
  case neg =>
    go_wp2
    all_goals
      go_ret
      exact ⟨Or.inl rfl, rfl⟩
  go_wp2
  go_loop [9, 10] (fun z i => ∃ k n : Nat, k ≤ xs.length ∧ i = .int .i64 k ∧ z = .int .i64 n ∧ n ≤ 1048576 ∧ Hid (∀ j, j < k → Sm (xs.getD j ⟨#[]⟩))) (fun _ i => xs.length - (intOf i).toNat)
  case atStart => exact ⟨0, fld.size + xs.length, Nat.zero_le _, rfl, by go_num, hs2, fun j hj => absurd hj (by omega)⟩
  case round =>
    obtain ⟨k, n, hk, rfl, rfl, hn, HA⟩ := hrel
    by_cases hlt : k < xs.length
    · obtain ⟨sb, so, rfl, hsb, hc⟩ := hX k hlt
      obtain ⟨s, hs⟩ : ∃ s, xs.getD k ⟨#[]⟩ = s := ⟨_, rfl⟩
      rw [hs] at hc
      by_cases he : s.size ≤ 1048576
      · have HN : Hid (∀ j, j < k + 1 → Sm (xs.getD j ⟨#[]⟩)) := upto_succ HA.out (by rw [hs]; exact he)
        clear hs hX hY
        by_cases hne : n + s.size ≤ 1048576
        · go_wp2
          go_round
          case rel => exact ⟨k + 1, n + s.size, by omega, by go_num, by go_num, hne, HN⟩
          case measure => simp [intOf]; omega
        · go_wp2
          go_ret
          exact ⟨Or.inl rfl, rfl⟩
      · clear hs hX hY
        go_wp2
        go_ret
        exact ⟨Or.inl rfl, rfl⟩
    · have hkS : k = xs.length := by omega
      subst hkS
      by_cases hw2 : wt.size ≤ 1048576
      case neg =>
        clear hX hY
        go_wp2
        all_goals
          go_ret
          exact ⟨Or.inl rfl, rfl⟩
      by_cases hl2 : n + wt.size + ys.length ≤ 1048576
      case neg =>
        clear hX hY
        go_wp2
        all_goals
          go_ret
          exact ⟨Or.inl rfl, rfl⟩
      clear hX
      go_wp2
      go_loop [9, 11] (fun z i => ∃ k n : Nat, k ≤ ys.length ∧ i = .int .i64 k ∧ z = .int .i64 n ∧ n ≤ 1048576 ∧ Hid (∀ j, j < k → Sm (ys.getD j ⟨#[]⟩))) (fun _ i => ys.length - (intOf i).toNat)
      case atStart => exact ⟨0, n + wt.size + ys.length, Nat.zero_le _, rfl, by go_num, hl2, fun j hj => absurd hj (by omega)⟩
      case round =>
        obtain ⟨k, n, hk, rfl, rfl, hn, HC⟩ := hrel
        by_cases hlt : k < ys.length
        · obtain ⟨sb, so, rfl, hsb, hc⟩ := hY k hlt
          obtain ⟨s, hs⟩ : ∃ s, ys.getD k ⟨#[]⟩ = s := ⟨_, rfl⟩
          rw [hs] at hc
          by_cases he : s.size ≤ 1048576
          · have HN : Hid (∀ j, j < k + 1 → Sm (ys.getD j ⟨#[]⟩)) := upto_succ HC.out (by rw [hs]; exact he)
            clear hs hY
            by_cases hne : n + s.size ≤ 1048576
            · go_wp2
              go_round
              case rel => exact ⟨k + 1, n + s.size, by omega, by go_num, by go_num, hne, HN⟩
              case measure => simp [intOf]; omega
            · go_wp2
              go_ret
              exact ⟨Or.inl rfl, rfl⟩
          · clear hs hY
            go_wp2
            go_ret
            exact ⟨Or.inl rfl, rfl⟩
        · have hkL : k = ys.length := by omega
          subst hkL
          have HP : Hid (In5 fld wt xs ys) := ⟨hf2, hw2, small_of (by omega) HA.out, small_of (by omega) HC.out⟩
          clear hY
          go_wp2
          go_ret
          exact ⟨Or.inr ⟨rfl, HP.out⟩, rfl⟩

set_option maxRecDepth 100000 in
set_option maxHeartbeats 4000000 in
theorem bytes8 (fld wt : ByteArray) (a : Option Addr) (xs : List ByteArray) (ca : Nat) (w : World) (hf : fld.size ≤ maxLen) (hw : wt.size ≤ maxLen) (hxl : xs.length ≤ maxLen) (hX : StrsAt w a xs) :
    Calls Try.prog 8 #[.string fld, .slice a xs.length ca, .string wt] w fun x w' => BOut (In8 fld wt xs) x ∧ w = w' := by
  unfold maxLen at hf hw hxl
  go_enter Try.func8, Try.ntmps8
  by_cases hf2 : fld.size ≤ 1048576
  case neg =>
    go_wp2
    go_ret
    exact ⟨Or.inl rfl, rfl⟩
  by_cases hs2 : fld.size + xs.length ≤ 1048576
  case neg =>
    go_wp2
    all_goals
      go_ret
      exact ⟨Or.inl rfl, rfl⟩
  go_wp2
  go_loop [7, 8] (fun z i => ∃ k n : Nat, k ≤ xs.length ∧ i = .int .i64 k ∧ z = .int .i64 n ∧ n ≤ 1048576 ∧ Hid (∀ j, j < k → Sm (xs.getD j ⟨#[]⟩))) (fun _ i => xs.length - (intOf i).toNat)
  case atStart => exact ⟨0, fld.size + xs.length, Nat.zero_le _, rfl, by go_num, hs2, fun j hj => absurd hj (by omega)⟩
  case round =>
    obtain ⟨k, n, hk, rfl, rfl, hn, HA⟩ := hrel
    by_cases hlt : k < xs.length
    · obtain ⟨sb, so, rfl, hsb, hc⟩ := hX k hlt
      obtain ⟨s, hs⟩ : ∃ s, xs.getD k ⟨#[]⟩ = s := ⟨_, rfl⟩
      rw [hs] at hc
      by_cases he : s.size ≤ 1048576
      · have HN : Hid (∀ j, j < k + 1 → Sm (xs.getD j ⟨#[]⟩)) := upto_succ HA.out (by rw [hs]; exact he)
        clear hs hX
        by_cases hne : n + s.size ≤ 1048576
        · go_wp2
          go_round
          case rel => exact ⟨k + 1, n + s.size, by omega, by go_num, by go_num, hne, HN⟩
          case measure => simp [intOf]; omega
        · go_wp2
          go_ret
          exact ⟨Or.inl rfl, rfl⟩
      · clear hs hX
        go_wp2
        go_ret
        exact ⟨Or.inl rfl, rfl⟩
    · have hkS : k = xs.length := by omega
      subst hkS
      clear hX
      by_cases hw2 : wt.size ≤ 1048576
      case neg =>
        go_wp2
        all_goals
          go_ret
          exact ⟨Or.inl rfl, rfl⟩
      by_cases hl2 : n + wt.size ≤ 1048576
      case neg =>
        go_wp2
        all_goals
          go_ret
          exact ⟨Or.inl rfl, rfl⟩
      have HP : Hid (In8 fld wt xs) := ⟨hf2, hw2, small_of (by omega) HA.out⟩
      go_wp2
      go_ret
      exact ⟨Or.inr ⟨rfl, HP.out⟩, rfl⟩
end Go.Proofs.Qxb6616224a
