/-
  THE WALK of ZZnewPendingIndex.
-/
import Derived.Test.Qxb6616132aGrowRead
namespace Go.Proofs.Qxb6616132a
open Go.RowKit

/-- A slice of uint64, perhaps nil, reads as ts. -/
def SlU (w : World) (a : Option Addr) (ts : List Int) : Prop := ∀ i, i < ts.length → ∃ b off, a = some ⟨b, off, none⟩ ∧ b < w.heap.size ∧ w.cell? ⟨b, off + i, none⟩ = some (.int .u64 (ts.getD i 0))

theorem Try.info52 : ((Try.prog.info? 52).map (fun i => (i.size, i.bytes, i.zero.isSome))) = some (14, 120, true) := by kernel_rfl

theorem make_ch (n : Nat) (hn : n ≤ 1073741824) (w : World) :
    ∃ C : Array Value, C.size = n * 14 ∧ (Instr.makeSlice 44 (.int .i64 (n : Int)) (.int .i64 (n : Int))).run Try.prog w = .ok (.slice (some ⟨w.heap.size, 0, none⟩) n n) (w.alloc (.cells C 52)) := by
  have h := Try.info52
  cases hi : Try.prog.info? 52 with
  | none => rw [hi] at h; cases h
  | some i0 =>
    rw [hi] at h
    simp only [Option.map_some, Option.some.injEq, Prod.mk.injEq] at h
    obtain ⟨h1, h2, h3⟩ := h
    obtain ⟨z, hz⟩ := Option.isSome_iff_exists.1 h3
    refine ⟨madeCells z.cells (n * 14), by simp [size_madeCells], ?_⟩
    rw [run_make (P := Try.prog) w 44 52 i0 z Try.underlying44 hi hz .i64 .i64 n n (by omega) (Int.le_refl _) (by rw [h2]; omega) (by omega)]
    rw [h1]
    simp

theorem arr_get (C : Array Value) (i : Nat) (h : i < C.size) : ∃ v, C[i]? = some v := ⟨C[i], by simp [h]⟩

set_option maxRecDepth 4000 in
set_option maxHeartbeats 400000 in
theorem newPending (ia : Option Addr) (il ic : Nat) (a : Option Addr) (ts : List Int) (cap : Nat) (hn : ts.length ≤ 1073741824) (w : World) (hs : SlU w a ts) :
    Calls Try.prog 13 #[.slice ia il ic, .slice a ts.length cap] w fun e w' => e = .returned (.pointer (some ⟨w.heap.size + 1, 0, none⟩)) ∧
      ∃ C : Array Value, (∀ i, i < ts.length → C[14 * i + 1]? = some (.int .u64 (ts.getD i 0))) ∧
        w' = (w.alloc (.cells C 52)).alloc (.cells #[.pointer none, .slice none 0 0, .slice (some ⟨w.heap.size, 0, none⟩) ts.length ts.length, .slice ia il ic, .int .i64 0, .int .i64 0] 56) := by
  obtain ⟨C0, hC0, hmk⟩ := make_ch ts.length hn w
  have HC0 : Hid (C0.size = ts.length * 14) := hC0
  clear hC0
  go_enter Try.func13, Try.ntmps13
  go_wp2
  go_loopw [6, 12] (fun _ i wr => ∃ (k : Nat) (C : Array Value), k ≤ ts.length ∧ i = .int .i64 k ∧ wr = w.alloc (.cells C 52) ∧ Hid (C.size = ts.length * 14) ∧ Hid (∀ j, j < k → C[14 * j + 1]? = some (.int .u64 (ts.getD j 0)))) (fun _ i _ => ts.length - (intOf i).toNat)
  case atStart => exact ⟨0, C0, Nat.zero_le _, rfl, rfl, HC0, fun j hj => absurd hj (by omega)⟩
  case round =>
    obtain ⟨k, C, hk, rfl, rfl, HS, HA⟩ := hrel
    clear hmk HC0
    by_cases hlt : k < ts.length
    · obtain ⟨b, off, rfl, hb, hck⟩ := hs k hlt
      obtain ⟨v0, hv0⟩ := arr_get C (k * 14 + 1) (by have := HS.out; omega)
      go_wp2
      go_roundw
      case rel =>
        refine ⟨k + 1, _, by omega, by go_num, rfl, ?_, ?_⟩
        · exact (Array.size_setIfInBounds ..).trans HS.out
        · intro j hj
          rw [Array.getElem?_setIfInBounds]
          by_cases e : k * 14 + 1 = 14 * j + 1
          · have ej : j = k := by omega
            subst ej
            have hin : j * 14 + 1 < C.size := by have := HS.out; omega
            simp [e, hlt, show 14 * j + 1 < C.size by omega]
          · rw [if_neg e]; exact HA.out j (by omega)
      case measure => simp [intOf]; omega
    · have hkz : k = ts.length := by omega
      subst hkz
      clear hs
      go_wp2
      go_ret
      exact ⟨rfl, C, HA.out, rfl⟩
end Go.Proofs.Qxb6616132a
