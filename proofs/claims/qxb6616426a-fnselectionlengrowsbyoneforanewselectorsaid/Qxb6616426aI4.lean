/-
  THE WALK of zzAddStrings.
-/
import Derived.Test.Qxb6616426aI3
namespace Go.Proofs.Qxb6616426a
open Go.RowKit

set_option maxRecDepth 100000 in
set_option maxHeartbeats 1600000 in
theorem add_any (acc : Nat) (hacc : acc ≤ 1073741824) (a : Option Addr) (xs : List ByteArray) (cap : Nat) (hn : xs.length ≤ 1048576) (hsm : ∀ j, j < xs.length → Sm (xs.getD j ⟨#[]⟩)) (w : World) (hS : StrsAt w a xs) :
    Calls Try.prog 5 #[.int .i64 acc, .slice a xs.length cap] w fun e w' => (∃ n : Nat, e = .returned (.int .i64 n) ∧ n ≤ 1073741824) ∧ w = w' := by
  by_cases h20 : acc ≤ 1048576
  · go_enter Try.func5, Try.ntmps5
    go_wp2
    go_loop [0, 6, 17] (fun z _ j => ∃ k n : Nat, k ≤ xs.length ∧ j = .int .i64 k ∧ z = .int .i64 n ∧ n ≤ 16777216) (fun _ _ j => xs.length - (intOf j).toNat)
    case atStart => exact ⟨0, acc + 8 * xs.length, Nat.zero_le _, rfl, by go_num, by omega⟩
    case round =>
      obtain ⟨k, n, hk, rfl, rfl, hnn⟩ := hrel
      by_cases hlt : k < xs.length
      · obtain ⟨b, off, rfl, hb, hc⟩ := hS k hlt
        have hs1 : (xs.getD k ⟨#[]⟩).size ≤ 1048576 := hsm k hlt
        obtain ⟨x, hx⟩ : ∃ x, xs.getD k ⟨#[]⟩ = x := ⟨_, rfl⟩
        rw [hx] at hc hs1
        clear hx hS hsm
        by_cases h8 : n ≤ 1048576
        · go_wp2
          go_round
          case rel => exact ⟨k + 1, n + x.size, by omega, by go_num, by go_num, by omega⟩
          case measure => simp [intOf]; omega
        · go_wp2
          go_ret
          exact ⟨⟨n, rfl, by omega⟩, rfl⟩
      · clear hS hsm
        go_wp2
        go_ret
        exact ⟨⟨n, rfl, by omega⟩, rfl⟩
  · go_enter Try.func5, Try.ntmps5
    go_wp2
    go_ret
    exact ⟨⟨acc, rfl, hacc⟩, rfl⟩
end Go.Proofs.Qxb6616426a
