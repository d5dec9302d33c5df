/-
  THE WALK of listText.
-/
import Derived.Test.Qxb6616224aH0
namespace Go.Proofs.Qxb6616224a
open Go.RowKit

set_option maxRecDepth 4000 in
set_option maxHeartbeats 1600000 in
theorem listText_any (a : Option Addr) (xs : List ByteArray) (cap : Nat) (cj : ByteArray) (hcj : cj.size ≤ 16) (hsm : Small (lists xs)) (w : World) (hS : StrsAt w a xs) :
    Calls Try.prog 7 #[.slice a xs.length cap, .string cj] w fun e w' => e = .returned (.string ⟨(upTo xs.length cj.data.toList (lists xs) xs.length).toArray⟩) ∧ Below w.heap.size w w' := by
  have hn : xs.length ≤ 1048576 := by have := hsm.1; rw [lists_len] at this; exact this
  have hcj' : cj.data.toList.length ≤ 16 := by simpa using hcj
  have HL : Hid (∀ k, (upTo xs.length cj.data.toList (lists xs) k).length ≤ k * 1048600) := upTo_len _ _ _ hsm hcj'
  go_enter Try.func7, Try.ntmps7
  go_wp2
  go_loopw [5, 7] (fun v i wr => ∃ k : Nat, k ≤ xs.length ∧ i = .int .i64 k ∧ Hid (Buf w wr v (upTo xs.length cj.data.toList (lists xs) k))) (fun _ i _ => xs.length - (intOf i).toNat)
  case atStart => exact ⟨0, Nat.zero_le _, rfl, Buf.start w⟩
  case round =>
    obtain ⟨k, hk, rfl, HB⟩ := hrel
    by_cases hlt : k < xs.length
    · obtain ⟨b, off, rfl, hb, hc⟩ := hS k hlt
      obtain ⟨x, hx⟩ : ∃ x, xs.getD k ⟨#[]⟩ = x := ⟨_, rfl⟩
      have hxs : x.size ≤ 1048576 := by
        have := hsm.2 k
        rw [lists_getD, hx] at this
        simpa using this
      have HX : Hid ((lists xs).getD k [] = x.data.toList) := by rw [Hid, lists_getD, hx]
      rw [hx] at hc
      obtain ⟨l, hl⟩ : ∃ l, upTo xs.length cj.data.toList (lists xs) k = l := ⟨_, rfl⟩
      have hll : l.length ≤ 1099549900800 := by
        have := HL.out k
        rw [hl] at this
        omega
      have HE : Hid (upTo xs.length cj.data.toList (lists xs) k = l) := hl
      rw [hl] at HB
      have hcw : wr.cell? ⟨b, off + k, none⟩ = some (.string x) := by rw [HB.out.below.cell (by exact hb)]; exact hc
      have HC : Hid (w.cell? ⟨b, off + k, none⟩ = some (.string x)) := hc
      clear hl hx hc hS hsm
      by_cases h0 : k = 0
      · subst h0
        have hcw0 : wr.cell? ⟨b, off, none⟩ = some (.string x) := hcw
        clear hcw
        have HN : Hid (upTo xs.length cj.data.toList (lists xs) (0 + 1) = l ++ x.data.toList) := by rw [Hid, upTo, HE.out, HX.out]; simp [sepAt]
        go_wp2_with (at_builtin; refine buf_text rfl (.tmp 43) (.tmp 47) rfl w wr _ l x HB.out rfl rfl (by omega) ?_; intro v' w' hB')
        have HB' : Hid (Buf w w' v' (upTo xs.length cj.data.toList (lists xs) (0 + 1))) := by rw [HN.out]; exact hB'
        clear hB'
        go_wp2_with fail
        go_roundw
        case rel => exact ⟨0 + 1, by omega, by go_num, HB'⟩
        case measure => simp [intOf]; omega
      · by_cases h1 : k + 1 < xs.length
        · have HN : Hid (upTo xs.length cj.data.toList (lists xs) (k + 1) = l ++ [44, 32] ++ x.data.toList) := by rw [Hid, upTo, HE.out, HX.out]; simp [sepAt, h0, h1]
          go_wp2_with (first
            | (at_builtin; refine buf_bytes rfl (.tmp 23) (.tmp 24) rfl w wr _ l [44, 32] _ rfl HB.out rfl rfl (by simp; omega) ?_; intro v' w' hB'; have hcw' : w'.cell? ⟨b, off + k, none⟩ = some (.string x) := (hB'.below.cell (by exact hb)).trans HC.out)
            | (at_builtin; refine buf_text rfl (.tmp 43) (.tmp 47) rfl w w' _ (l ++ [44, 32]) x hB' rfl rfl (by simp; omega) ?_; intro v'' w'' hB''))
          have HB' : Hid (Buf w w'' v'' (upTo xs.length cj.data.toList (lists xs) (k + 1))) := by rw [HN.out]; exact hB''
          clear hB' hB''
          go_wp2_with fail
          go_roundw
          case rel => exact ⟨k + 1, by omega, by go_num, HB'⟩
          case measure => simp [intOf]; omega
        · have HN : Hid (upTo xs.length cj.data.toList (lists xs) (k + 1) = l ++ [32] ++ cj.data.toList ++ [32] ++ x.data.toList) := by rw [Hid, upTo, HE.out, HX.out]; simp [sepAt, h0, h1]
          have hcl : cj.data.size ≤ 16 := hcj
          go_wp2_with (first
            | (at_builtin; refine buf_bytes rfl (.tmp 34) (.tmp 35) rfl w wr _ l [32] _ rfl HB.out rfl rfl (by simp; omega) ?_; intro v1 w1 hB1)
            | (at_builtin; refine buf_text rfl (.tmp 37) (.tmp 38) rfl w w1 _ (l ++ [32]) cj hB1 rfl rfl (by simp; omega) ?_; intro v2 w2 hB2)
            | (at_builtin; refine buf_bytes rfl (.tmp 40) (.tmp 41) rfl w w2 _ (l ++ [32] ++ cj.data.toList) [32] _ rfl hB2 rfl rfl (by simp; omega) ?_; intro v3 w3 hB3; have hcw3 : w3.cell? ⟨b, off + k, none⟩ = some (.string x) := (hB3.below.cell (by exact hb)).trans HC.out)
            | (at_builtin; refine buf_text rfl (.tmp 43) (.tmp 47) rfl w w3 _ (l ++ [32] ++ cj.data.toList ++ [32]) x hB3 rfl rfl (by simp; omega) ?_; intro v4 w4 hB4))
          have HB' : Hid (Buf w w4 v4 (upTo xs.length cj.data.toList (lists xs) (k + 1))) := by rw [HN.out]; exact hB4
          clear hB1 hB2 hB3 hB4
          go_wp2_with fail
          go_roundw
          case rel => exact ⟨k + 1, by omega, by go_num, HB'⟩
          case measure => simp [intOf]; omega
    · have hkx : k = xs.length := by omega
      subst hkx
      have hconv := buf_string HB.out
      clear hS
      go_wp2
      go_ret
      exact ⟨rfl, HB.out.below⟩
end Go.Proofs.Qxb6616224a
