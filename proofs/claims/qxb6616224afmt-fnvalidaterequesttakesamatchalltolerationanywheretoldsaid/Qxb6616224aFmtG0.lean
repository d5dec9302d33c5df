/-
  THE WALK of the byte bound of FnValidateRequestTakesAMatchAllTolerationAnywhere.
-/
import Derived.Test.Qxb6616224aFmtF6
namespace Go.Proofs.Qxb6616224aFmt
open Go.RowKit

structure SmallIn4 (fld oth : ByteArray) (S : List (Option ByteArray)) (L : List TolP) : Prop where
  sm : SmallIn S L
  f : fld.size ≤ 1048576
  o : oth.size ≤ 1048576

set_option maxRecDepth 100000 in
set_option maxHeartbeats 4000000 in
theorem bytes11 (fld oth : ByteArray) (pos : Int) (a : Option Addr) (S : List (Option ByteArray)) (ca : Nat) (b : Option Addr) (L : List TolP) (cb : Nat) (w : World) (hf : fld.size ≤ maxLen) (hf' : oth.size ≤ maxLen) (hSl : S.length ≤ maxLen) (hLl : L.length ≤ maxLen) (hS : SelsAt w a S) (hL : TolsAt w b L) :
    Calls Tryf.prog 11 #[.string fld, .string oth, .slice a S.length ca, .slice b L.length cb, .int .i64 pos] w fun x w' => BOut (SmallIn4 fld oth S L) x ∧ w = w' := by
  unfold maxLen at hf hf' hSl hLl
  go_enter Tryf.func11, Tryf.ntmps11
  by_cases hf2 : fld.size ≤ 1048576
  case neg =>
    go_wp2
    go_ret
    exact ⟨Or.inl rfl, rfl⟩
  by_cases ho2 : fld.size + oth.size ≤ 1048576
  case neg =>
    go_wp2
    all_goals
      go_ret
      exact ⟨Or.inl rfl, rfl⟩
  by_cases hs2 : fld.size + oth.size + S.length ≤ 1048576
  case neg =>
    go_wp2
    all_goals
      go_ret
      exact ⟨Or.inl rfl, rfl⟩
  go_wp2
  go_loop [11, 12] (fun z i => ∃ k n : Nat, k ≤ S.length ∧ i = .int .i64 k ∧ z = .int .i64 n ∧ n ≤ 1048576 ∧ Hid (∀ j, j < k → selSm (S.getD j none))) (fun _ i => S.length - (intOf i).toNat)
  case atStart => exact ⟨0, fld.size + oth.size + S.length, Nat.zero_le _, rfl, by go_num, hs2, fun j hj => absurd hj (by omega)⟩
  case round =>
    obtain ⟨k, n, hk, rfl, rfl, hn, HA⟩ := hrel
    by_cases hlt : k < S.length
    · obtain ⟨sb, so, c, rfl, hsb, hc, hsel⟩ := hS k hlt
      obtain ⟨s, hs⟩ : ∃ s, S.getD k none = s := ⟨_, rfl⟩
      rw [hs] at hsel
      rcases hsel with ⟨rfl, rfl⟩ | ⟨pb, po, e, rfl, rfl, hpb, hpc⟩
      · have HN : Hid (∀ j, j < k + 1 → selSm (S.getD j none)) := upto_succ HA.out (by rw [hs]; intro e he; cases he)
        clear hs hS hL
        go_wp2
        go_round
        case rel => exact ⟨k + 1, n, by omega, by go_num, rfl, hn, HN⟩
        case measure => simp [intOf]; omega
      · by_cases he : e.size ≤ 1048576
        · have HN : Hid (∀ j, j < k + 1 → selSm (S.getD j none)) := upto_succ HA.out (by rw [hs]; intro e' he'; cases he'; exact he)
          clear hs hS hL
          by_cases hne : n + e.size ≤ 1048576
          · go_wp2
            go_round
            case rel => exact ⟨k + 1, n + e.size, by omega, by go_num, by go_num, hne, HN⟩
            case measure => simp [intOf]; omega
          · go_wp2
            go_ret
            exact ⟨Or.inl rfl, rfl⟩
        · clear hs hS hL
          go_wp2
          go_ret
          exact ⟨Or.inl rfl, rfl⟩
    · have hkS : k = S.length := by omega
      subst hkS
      by_cases hl2 : n + L.length ≤ 1048576
      case neg =>
        clear hS hL
        go_wp2
        all_goals
          go_ret
          exact ⟨Or.inl rfl, rfl⟩
      clear hS
      go_wp2
      go_loop [11, 13] (fun z i => ∃ k n : Nat, k ≤ L.length ∧ i = .int .i64 k ∧ z = .int .i64 n ∧ n ≤ 1048576 ∧ Hid (∀ j, j < k → tolSm (L.getD j tolZ))) (fun _ i => L.length - (intOf i).toNat)
      case atStart => exact ⟨0, n + L.length, Nat.zero_le _, rfl, by go_num, hl2, fun j hj => absurd hj (by omega)⟩
      case round =>
        obtain ⟨k, n, hk, rfl, rfl, hn, HC⟩ := hrel
        by_cases hlt : k < L.length
        · obtain ⟨tb, tof, rfl, htb, hT⟩ := hL k hlt
          obtain ⟨t, ht⟩ : ∃ t, L.getD k tolZ = t := ⟨_, rfl⟩
          rw [ht] at hT
          have hc0 := hT.c0
          have hc1 := hT.c1
          have hc2 := hT.c2
          have hc3 := hT.c3
          have HT : Hid (L.getD k tolZ = t) := ht
          clear ht hL hT
          by_cases hsm : t.k.size ≤ 1048576 ∧ t.o.size ≤ 1048576 ∧ t.v.size ≤ 1048576 ∧ t.e.size ≤ 1048576 ∧ n + t.k.size + t.o.size + t.v.size + t.e.size ≤ 1048576
          · obtain ⟨q0, q1, q2, q3, q4⟩ := hsm
            have HN : Hid (∀ j, j < k + 1 → tolSm (L.getD j tolZ)) := upto_succ HC.out (by rw [HT.out]; exact ⟨q0, q1, q2, q3⟩)
            go_wp2
            go_round
            case rel => exact ⟨k + 1, n + t.k.size + t.o.size + t.v.size + t.e.size, by omega, by go_num, by go_num, q4, HN⟩
            case measure => simp [intOf]; omega
          · have hsm' : Hid (¬ (t.k.size ≤ 1048576 ∧ t.o.size ≤ 1048576 ∧ t.v.size ≤ 1048576 ∧ t.e.size ≤ 1048576 ∧ n + t.k.size + t.o.size + t.v.size + t.e.size ≤ 1048576)) := hsm
            clear hsm
            go_wp2
            all_goals first
              | (go_ret; exact ⟨Or.inl rfl, rfl⟩)
              | (exfalso; have := hsm'.out; omega)
        · have hkL : k = L.length := by omega
          subst hkL
          have HY : Hid (SmallIn4 fld oth S L) := ⟨⟨by omega, by omega, HA.out, HC.out⟩, by omega, by omega⟩
          clear hL
          go_wp2
          go_ret
          exact ⟨Or.inr ⟨rfl, HY.out⟩, rfl⟩
end Go.Proofs.Qxb6616224aFmt
