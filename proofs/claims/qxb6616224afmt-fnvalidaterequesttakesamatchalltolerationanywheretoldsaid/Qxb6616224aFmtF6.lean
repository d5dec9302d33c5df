/-
  THE WALK of the byte bound of FnValidateRequestRefuses...
-/
import Derived.Test.Qxb6616224aFmtF5
namespace Go.Proofs.Qxb6616224aFmt
open Go.RowKit

/-- The strings are short. -/
def selSm (s : Option ByteArray) : Prop := ∀ e, s = some e → e.size ≤ 1048576
def tolSm (t : TolP) : Prop := t.k.size ≤ 1048576 ∧ t.o.size ≤ 1048576 ∧ t.v.size ≤ 1048576 ∧ t.e.size ≤ 1048576
structure SmallIn (S : List (Option ByteArray)) (L : List TolP) : Prop where
  ls : S.length ≤ 1048576
  ll : L.length ≤ 1048576
  hs : ∀ i, i < S.length → selSm (S.getD i none)
  hl : ∀ i, i < L.length → tolSm (L.getD i tolZ)
/-- It says no; or it says yes, and then P. -/
def BOut (P : Prop) (x : Ending) : Prop := x = .returned (.bool false) ∨ (x = .returned (.bool true) ∧ P)

set_option maxRecDepth 100000 in
set_option maxHeartbeats 4000000 in
theorem bytes5 (fld : ByteArray) (a : Option Addr) (S : List (Option ByteArray)) (ca : Nat) (b : Option Addr) (L : List TolP) (cb : Nat) (w : World) (hf : fld.size ≤ maxLen) (hSl : S.length ≤ maxLen) (hLl : L.length ≤ maxLen) (hS : SelsAt w a S) (hL : TolsAt w b L) :
    Calls Tryf.prog 5 #[.string fld, .slice a S.length ca, .slice b L.length cb] w fun x w' => BOut (SmallIn S L) x ∧ w = w' := by
  unfold maxLen at hf hSl hLl
  go_enter Tryf.func5, Tryf.ntmps5
  by_cases hf2 : fld.size ≤ 1048576
  case neg =>
    go_wp2
    go_ret
    exact ⟨Or.inl rfl, rfl⟩
  by_cases hs2 : fld.size + S.length ≤ 1048576
  case neg =>
    go_wp2
    all_goals
      go_ret
      exact ⟨Or.inl rfl, rfl⟩
  go_wp2
  go_loop [7, 8] (fun z i => ∃ k n : Nat, k ≤ S.length ∧ i = .int .i64 k ∧ z = .int .i64 n ∧ n ≤ 1048576 ∧ Hid (∀ j, j < k → selSm (S.getD j none))) (fun _ i => S.length - (intOf i).toNat)
  case atStart => exact ⟨0, fld.size + S.length, Nat.zero_le _, rfl, by go_num, hs2, fun j hj => absurd hj (by omega)⟩
  case round =>
    obtain ⟨k, n, hk, rfl, rfl, hn, HA⟩ := hrel
    by_cases hlt : k < S.length
    · obtain ⟨sb, so, c, rfl, hsb, hc, hsel⟩ := hS k hlt
      obtain ⟨s, hs⟩ : ∃ s, S.getD k none = s := ⟨_, rfl⟩
      rw [hs] at hsel
      rcases hsel with ⟨rfl, rfl⟩ | ⟨pb, po, e, rfl, rfl, hpb, hpc⟩
      · have HN : Hid (∀ j, j < k + 1 → selSm (S.getD j none)) := upto_succ HA.out (by rw [hs]; intro e he; cases he)
        clear hs hS hL
        go_wp2
        go_round
        case rel => exact ⟨k + 1, n, by omega, by go_num, rfl, hn, HN⟩
        case measure => simp [intOf]; omega
      · by_cases he : e.size ≤ 1048576
        · have HN : Hid (∀ j, j < k + 1 → selSm (S.getD j none)) := upto_succ HA.out (by rw [hs]; intro e' he'; cases he'; exact he)
          clear hs hS hL
          by_cases hne : n + e.size ≤ 1048576
          · go_wp2
            go_round
            case rel => exact ⟨k + 1, n + e.size, by omega, by go_num, by go_num, hne, HN⟩
            case measure => simp [intOf]; omega
          · go_wp2
            go_ret
            exact ⟨Or.inl rfl, rfl⟩
        · clear hs hS hL
          go_wp2
          go_ret
          exact ⟨Or.inl rfl, rfl⟩
    · have hkS : k = S.length := by omega
      subst hkS
      by_cases hl2 : n + L.length ≤ 1048576
      case neg =>
        clear hS hL
        go_wp2
        all_goals
          go_ret
          exact ⟨Or.inl rfl, rfl⟩
      clear hS
      go_wp2
      go_loop [7, 9] (fun z i => ∃ k n : Nat, k ≤ L.length ∧ i = .int .i64 k ∧ z = .int .i64 n ∧ n ≤ 1048576 ∧ Hid (∀ j, j < k → tolSm (L.getD j tolZ))) (fun _ i => L.length - (intOf i).toNat)
      case atStart => exact ⟨0, n + L.length, Nat.zero_le _, rfl, by go_num, hl2, fun j hj => absurd hj (by omega)⟩
      case round =>
        obtain ⟨k, n, hk, rfl, rfl, hn, HC⟩ := hrel
        by_cases hlt : k < L.length
        · obtain ⟨tb, to, rfl, htb, hT⟩ := hL k hlt
          obtain ⟨t, ht⟩ : ∃ t, L.getD k tolZ = t := ⟨_, rfl⟩
          rw [ht] at hT
          have hc0 := hT.c0
          have hc1 := hT.c1
          have hc2 := hT.c2
          have hc3 := hT.c3
          have HT : Hid (L.getD k tolZ = t) := ht
          clear ht hL hT
          by_cases hsm : t.k.size ≤ 1048576 ∧ t.o.size ≤ 1048576 ∧ t.v.size ≤ 1048576 ∧ t.e.size ≤ 1048576 ∧ n + t.k.size + t.o.size + t.v.size + t.e.size ≤ 1048576
          · obtain ⟨q0, q1, q2, q3, q4⟩ := hsm
            have HN : Hid (∀ j, j < k + 1 → tolSm (L.getD j tolZ)) := upto_succ HC.out (by rw [HT.out]; exact ⟨q0, q1, q2, q3⟩)
            go_wp2
            go_round
            case rel => exact ⟨k + 1, n + t.k.size + t.o.size + t.v.size + t.e.size, by omega, by go_num, by go_num, q4, HN⟩
            case measure => simp [intOf]; omega
          · have hsm' : Hid (¬ (t.k.size ≤ 1048576 ∧ t.o.size ≤ 1048576 ∧ t.v.size ≤ 1048576 ∧ t.e.size ≤ 1048576 ∧ n + t.k.size + t.o.size + t.v.size + t.e.size ≤ 1048576)) := hsm
            clear hsm
            go_wp2
            all_goals first
              | (go_ret; exact ⟨Or.inl rfl, rfl⟩)
              | (exfalso; have := hsm'.out; omega)
        · have hkL : k = L.length := by omega
          subst hkL
          have HY : Hid (SmallIn S L) := ⟨by omega, by omega, HA.out, HC.out⟩
          clear hL
          go_wp2
          go_ret
          exact ⟨Or.inr ⟨rfl, HY.out⟩, rfl⟩
end Go.Proofs.Qxb6616224aFmt
