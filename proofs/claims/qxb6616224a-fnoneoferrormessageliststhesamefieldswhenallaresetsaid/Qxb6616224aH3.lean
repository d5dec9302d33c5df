/-
  THE WALK of Message's own closure 'each', and of the naming function.
-/
import Derived.Test.Qxb6616224aH2
namespace Go.Proofs.Qxb6616224a
open Go.RowKit

theorem blk_cell {w : World} {g : Nat} {arr : Array Value} {t : TypeId} (h : w.heap[g]? = some (.cells arr t (0, 0))) (i : Nat) : w.cell? ⟨g, i, none⟩ = arr[i]? := by
  simp [World.cell?, h]
theorem blk_free {w : World} {g : Nat} {arr : Array Value} {t : TypeId} (h : w.heap[g]? = some (.cells arr t (0, 0))) (i : Nat) : w.frozen? ⟨g, i, none⟩ = false := by
  simp [World.frozen?, h]
theorem blk_lt {w : World} {g : Nat} {o : Obj} (h : w.heap[g]? = some o) : g < w.heap.size := by
  rcases Nat.lt_or_ge g w.heap.size with h' | h'
  · exact h'
  · rw [Array.getElem?_eq_none h'] at h; cases h
theorem blk_set {w : World} {g : Nat} {arr : Array Value} {t : TypeId} (h : w.heap[g]? = some (.cells arr t (0, 0))) (i : Nat) (v : Value) : (w.setCell ⟨g, i, none⟩ v).heap[g]? = some (.cells (arr.setIfInBounds i v) t (0, 0)) := by
  simp [World.setCell, Array.getElem?_modify, h]

theorem Try.info9 : (Try.prog.info? 9).map (fun i => (i.zero, i.size, i.bytes)) = some (some (.string ⟨#[]⟩), 1, 16) := by kernel_rfl
theorem make9 (n : Nat) (hn : n ≤ 1073741824) (w : World) :
    ∃ C : Array Value, C.size = n ∧ (Instr.makeSlice 22 (.int .i64 (n : Int)) (.int .i64 (n : Int))).run Try.prog w = .ok (.slice (some ⟨w.heap.size, 0, none⟩) n n) (w.alloc (.cells C 9)) := by
  obtain ⟨i0, hi, hz0, hz1, hz2⟩ := info_parts Try.info9
  refine ⟨madeCells (Value.cells (.string ⟨#[]⟩)) (n * 1), by simp [size_madeCells], ?_⟩
  rw [run_make (P := Try.prog) w 22 9 i0 _ Try.underlying22 hi hz0 .i64 .i64 n n (by omega) (Int.le_refl _) (by rw [hz2]; omega) (by omega)]
  rw [hz1]
  simp

/-- The row at g behind k rounds. -/
def StrRow (g n : Nat) (w : World) (xs : List ByteArray) (k : Nat) : Prop :=
  ∃ arr : Array Value, w.heap[g]? = some (.cells arr 9 (0, 0)) ∧ arr.size = n ∧ ∀ i, i < k → arr[i]? = some (.string (xs.getD i ⟨#[]⟩))
theorem StrRow.step {g n k : Nat} {w : World} {xs : List ByteArray} (h : StrRow g n w xs k) (hk : k < n) (x : ByteArray) (hx : xs.getD k ⟨#[]⟩ = x) : StrRow g n (w.setCell ⟨g, k, none⟩ (.string x)) xs (k + 1) := by
  obtain ⟨arr, h1, h2, h3⟩ := h
  refine ⟨arr.setIfInBounds k (.string x), blk_set h1 k _, by simp [h2], fun i hi => ?_⟩
  by_cases e : i = k
  · subst e
    rw [hx]
    simp [h2, hk]
  · rw [Array.getElem?_setIfInBounds, if_neg (fun h => e h.symm)]
    exact h3 i (by omega)
theorem StrRow.at {g n : Nat} {w : World} {xs : List ByteArray} (h : StrRow g n w xs n) (hn : xs.length = n) : StrsAt w (some ⟨g, 0, none⟩) xs := by
  obtain ⟨arr, h1, h2, h3⟩ := h
  intro i hi
  exact ⟨g, 0, rfl, blk_lt h1, by rw [Nat.zero_add, blk_cell h1]; exact h3 i (by omega)⟩

theorem same_any (s : ByteArray) (w : World) : Calls Try.prog 10 #[.string s] w fun e w' => e = .returned (.string s) ∧ w = w' := by
  go_enter Try.func10, Try.ntmps10
  go_wp2
  go_ret
  exact ⟨rfl, rfl⟩

set_option maxRecDepth 4000 in
set_option maxHeartbeats 1600000 in
theorem each_any (a : Option Addr) (xs : List ByteArray) (cap q : Nat) (hn : xs.length ≤ 1073741824) (w : World) (hS : StrsAt w a xs) (hq : q < w.heap.size) (hqc : w.cell? ⟨q, 0, none⟩ = some (.func (.func 10) #[] #[])) :
    Calls Try.prog 11 #[.slice a xs.length cap, .pointer (some ⟨q, 0, none⟩)] w fun e w' => e = .returned (.slice (some ⟨w.heap.size, 0, none⟩) xs.length xs.length) ∧ StrsAt w' (some ⟨w.heap.size, 0, none⟩) xs ∧ Below w.heap.size w w' := by
  obtain ⟨C, hCs, hmk⟩ := make9 xs.length hn w
  have HC : Hid (C.size = xs.length) := hCs
  have HQ : Hid (w.cell? ⟨q, 0, none⟩ = some (.func (.func 10) #[] #[])) := hqc
  clear hCs hqc
  go_enter Try.func11, Try.ntmps11
  go_wp2
  go_loopw [5, 6, 12] (fun _ _ i wr => ∃ k : Nat, k ≤ xs.length ∧ i = .int .i64 k ∧ Hid (StrRow w.heap.size xs.length wr xs k) ∧ Hid (Below w.heap.size w wr)) (fun _ _ i _ => xs.length - (intOf i).toNat)
  case atStart =>
    exact ⟨0, Nat.zero_le _, rfl, ⟨C, heap_alloc_new w _, HC.out, fun i hi => absurd hi (by omega)⟩, (Below.refl _ _).alloc (Nat.le_refl _) _⟩
  case round =>
    obtain ⟨k, hk, rfl, HR, HB⟩ := hrel
    have hws := HB.out.size
    clear hmk HC
    by_cases hlt : k < xs.length
    · obtain ⟨b, off, rfl, hb, hc⟩ := hS k hlt
      obtain ⟨x, hx⟩ : ∃ x, xs.getD k ⟨#[]⟩ = x := ⟨_, rfl⟩
      rw [hx] at hc
      rw [← HB.out.cell (by exact hb)] at hc
      have hqc : wr.cell? ⟨q, 0, none⟩ = some (.func (.func 10) #[] #[]) := (HB.out.cell (by exact hq)).trans HQ.out
      have HR' : Hid (StrRow w.heap.size xs.length (wr.setCell ⟨w.heap.size, k, none⟩ (.string x)) xs (k + 1)) := HR.out.step hlt x hx
      have HB' : Hid (Below w.heap.size w (wr.setCell ⟨w.heap.size, k, none⟩ (.string x))) := HB.out.setCell (Nat.le_refl _) _
      obtain ⟨arr, ha1, ha2, ha3⟩ := HR.out
      have hgc : wr.cell? ⟨w.heap.size, k, none⟩ = some arr[k] := by rw [blk_cell ha1]; simp
      obtain ⟨v0, hv0⟩ : ∃ v0, arr[k] = v0 := ⟨_, rfl⟩
      rw [hv0] at hgc
      have hgf : wr.frozen? ⟨w.heap.size, k, none⟩ = false := blk_free ha1 k
      have hgl : w.heap.size < wr.heap.size := blk_lt ha1
      have hbr : b < wr.heap.size := by omega
      clear hx ha1 ha3 hv0 hS
      go_wp2_with (go_at_call 10; refine (same_any _ _).mono ?_; rintro e w' ⟨rfl, rfl⟩)
      go_roundw
      case rel => exact ⟨k + 1, by omega, by go_num, HR', HB'⟩
      case measure => simp [intOf]; omega
    · have hkz : k = xs.length := by omega
      subst hkz
      clear hS
      go_wp2
      go_ret
      exact ⟨rfl, HR.out.at rfl, HB.out⟩
end Go.Proofs.Qxb6616224a
