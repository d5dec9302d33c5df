/-
  THE WALKS of zzWith, zzAddStrings and the byte bound.
-/
import Derived.Test.Qxb6616426aI2
namespace Go.Proofs.Qxb6616426a
open Go.RowKit

theorem blk_cell {w : World} {g : Nat} {arr : Array Value} {t : TypeId} (h : w.heap[g]? = some (.cells arr t (0, 0))) (i : Nat) : w.cell? ⟨g, i, none⟩ = arr[i]? := by
  simp [World.cell?, h]
theorem blk_free {w : World} {g : Nat} {arr : Array Value} {t : TypeId} (h : w.heap[g]? = some (.cells arr t (0, 0))) (i : Nat) : w.frozen? ⟨g, i, none⟩ = false := by
  simp [World.frozen?, h]
theorem blk_lt {w : World} {g : Nat} {o : Obj} (h : w.heap[g]? = some o) : g < w.heap.size := by
  rcases Nat.lt_or_ge g w.heap.size with h' | h'
  · exact h'
  · rw [Array.getElem?_eq_none h'] at h; cases h
theorem blk_set {w : World} {g : Nat} {arr : Array Value} {t : TypeId} (h : w.heap[g]? = some (.cells arr t (0, 0))) (i : Nat) (v : Value) : (w.setCell ⟨g, i, none⟩ v).heap[g]? = some (.cells (arr.setIfInBounds i v) t (0, 0)) := by
  simp [World.setCell, Array.getElem?_modify, h]

theorem Try.info9 : (Try.prog.info? 9).map (fun i => (i.zero, i.size, i.bytes)) = some (some (.string ⟨#[]⟩), 1, 16) := by kernel_rfl
theorem make9 (n : Nat) (hn : n ≤ 1073741824) (w : World) :
    ∃ C : Array Value, C.size = n ∧ (Instr.makeSlice 22 (.int .i64 (n : Int)) (.int .i64 (n : Int))).run Try.prog w = .ok (.slice (some ⟨w.heap.size, 0, none⟩) n n) (w.alloc (.cells C 9)) := by
  obtain ⟨i0, hi, hz0, hz1, hz2⟩ := info_parts Try.info9
  refine ⟨madeCells (Value.cells (.string ⟨#[]⟩)) (n * 1), by simp [size_madeCells], ?_⟩
  rw [run_make (P := Try.prog) w 22 9 i0 _ Try.underlying22 hi hz0 .i64 .i64 n n (by omega) (Int.le_refl _) (by rw [hz2]; omega) (by omega)]
  rw [hz1]
  simp

/-- The row at g behind k rounds. -/
def StrRow (g n : Nat) (w : World) (xs : List ByteArray) (k : Nat) : Prop :=
  ∃ arr : Array Value, w.heap[g]? = some (.cells arr 9 (0, 0)) ∧ arr.size = n ∧ ∀ i, i < k → arr[i]? = some (.string (xs.getD i ⟨#[]⟩))
theorem StrRow.step {g n k : Nat} {w : World} {xs : List ByteArray} (h : StrRow g n w xs k) (hk : k < n) (x : ByteArray) (hx : xs.getD k ⟨#[]⟩ = x) : StrRow g n (w.setCell ⟨g, k, none⟩ (.string x)) xs (k + 1) := by
  obtain ⟨arr, h1, h2, h3⟩ := h
  refine ⟨arr.setIfInBounds k (.string x), blk_set h1 k _, by simp [h2], fun i hi => ?_⟩
  by_cases e : i = k
  · subst e
    rw [hx]
    simp [h2, hk]
  · rw [Array.getElem?_setIfInBounds, if_neg (fun h => e h.symm)]
    exact h3 i (by omega)
theorem StrRow.at {g n : Nat} {w : World} {xs : List ByteArray} (h : StrRow g n w xs n) (hn : xs.length = n) : StrsAt w (some ⟨g, 0, none⟩) xs := by
  obtain ⟨arr, h1, h2, h3⟩ := h
  intro i hi
  exact ⟨g, 0, rfl, blk_lt h1, by rw [Nat.zero_add, blk_cell h1]; exact h3 i (by omega)⟩
theorem getD_app {xs : List ByteArray} {y : ByteArray} {k : Nat} (h : k < xs.length) : (xs ++ [y]).getD k ⟨#[]⟩ = xs.getD k ⟨#[]⟩ := by simp [List.getD_eq_getElem?_getD, List.getElem?_append_left h]
theorem getD_last {xs : List ByteArray} {y : ByteArray} : (xs ++ [y]).getD xs.length ⟨#[]⟩ = y := by simp [List.getD_eq_getElem?_getD]

set_option maxRecDepth 4000 in
set_option maxHeartbeats 1600000 in
theorem with_any (a : Option Addr) (xs : List ByteArray) (cap : Nat) (y : ByteArray) (hn : xs.length ≤ 1048576) (w : World) (hS : StrsAt w a xs) :
    Calls Try.prog 8 #[.slice a xs.length cap, .string y] w fun e w' => ∃ g, e = .returned (.slice (some ⟨g, 0, none⟩) (xs.length + 1) (xs.length + 1)) ∧ Hid (StrsAt w' (some ⟨g, 0, none⟩) (xs ++ [y])) ∧ Below w.heap.size w w' := by
  obtain ⟨C, hCs, hmk⟩ := make9 (xs.length + 1) (by omega) w
  have HC : Hid (C.size = xs.length + 1) := hCs
  clear hCs
  have hcast : ((xs.length + 1 : Nat) : Int) = (xs.length : Int) + 1 := by omega
  rw [hcast] at hmk
  clear hcast
  go_enter Try.func8, Try.ntmps8
  go_wp2
  go_loopw [6, 13] (fun _ i wr => ∃ k : Nat, k ≤ xs.length ∧ i = .int .i64 k ∧ Hid (StrRow w.heap.size (xs.length + 1) wr (xs ++ [y]) k) ∧ Hid (Below w.heap.size w wr)) (fun _ i _ => xs.length - (intOf i).toNat)
  case atStart =>
    exact ⟨0, Nat.zero_le _, rfl, ⟨C, heap_alloc_new w _, HC.out, fun i hi => absurd hi (by omega)⟩, (Below.refl _ _).alloc (Nat.le_refl _) _⟩
  case round =>
    obtain ⟨k, hk, rfl, HR, HB⟩ := hrel
    have hws := HB.out.size
    clear hmk HC
    obtain ⟨arr, ha1, ha2, ha3⟩ := HR.out
    by_cases hlt : k < xs.length
    · obtain ⟨b, off, rfl, hb, hc⟩ := hS k hlt
      obtain ⟨x, hx⟩ : ∃ x, xs.getD k ⟨#[]⟩ = x := ⟨_, rfl⟩
      rw [hx] at hc
      rw [← HB.out.cell (by exact hb)] at hc
      have HR' : Hid (StrRow w.heap.size (xs.length + 1) (wr.setCell ⟨w.heap.size, k, none⟩ (.string x)) (xs ++ [y]) (k + 1)) := HR.out.step (by omega) x ((getD_app hlt).trans hx)
      have HB' : Hid (Below w.heap.size w (wr.setCell ⟨w.heap.size, k, none⟩ (.string x))) := HB.out.setCell (Nat.le_refl _) _
      have hgc : wr.cell? ⟨w.heap.size, k, none⟩ = some arr[k] := by rw [blk_cell ha1]; simp
      obtain ⟨v0, hv0⟩ : ∃ v0, arr[k] = v0 := ⟨_, rfl⟩
      rw [hv0] at hgc
      have hgf : wr.frozen? ⟨w.heap.size, k, none⟩ = false := blk_free ha1 k
      have hgl : w.heap.size < wr.heap.size := blk_lt ha1
      have hbr : b < wr.heap.size := by omega
      clear hx ha1 ha3 hv0 hS
      go_wp2
      go_roundw
      case rel => exact ⟨k + 1, by omega, by go_num, HR', HB'⟩
      case measure => simp [intOf]; omega
    · have hkz : k = xs.length := by omega
      subst hkz
      have HR' : Hid (StrRow w.heap.size (xs.length + 1) (wr.setCell ⟨w.heap.size, xs.length, none⟩ (.string y)) (xs ++ [y]) (xs.length + 1)) := HR.out.step (by omega) y getD_last
      have HB' : Hid (Below w.heap.size w (wr.setCell ⟨w.heap.size, xs.length, none⟩ (.string y))) := HB.out.setCell (Nat.le_refl _) _
      have hgc : wr.cell? ⟨w.heap.size, xs.length, none⟩ = some arr[xs.length] := by rw [blk_cell ha1]; simp
      obtain ⟨v0, hv0⟩ : ∃ v0, arr[xs.length] = v0 := ⟨_, rfl⟩
      rw [hv0] at hgc
      have hgf : wr.frozen? ⟨w.heap.size, xs.length, none⟩ = false := blk_free ha1 _
      have hgl : w.heap.size < wr.heap.size := blk_lt ha1
      clear hS ha1 ha3 hv0
      go_wp2
      go_ret
      exact ⟨_, rfl, HR'.out.at (by simp), HB'.out⟩

/-- It says no; or it says yes, and then P. -/
def BOut (P : Prop) (x : Ending) : Prop := x = .returned (.bool false) ∨ (x = .returned (.bool true) ∧ P)
def Sm (s : ByteArray) : Prop := s.size ≤ 1048576
structure In4 (xs ys : List ByteArray) (p : ByteArray) : Prop where
  lx : xs.length ≤ 1048576
  ly : ys.length ≤ 1048576
  x : ∀ j, j < xs.length → Sm (xs.getD j ⟨#[]⟩)
  y : ∀ j, j < ys.length → Sm (ys.getD j ⟨#[]⟩)
  p : p.size ≤ 1048576

set_option maxRecDepth 100000 in
set_option maxHeartbeats 4000000 in
theorem bytes4 (a : Option Addr) (xs : List ByteArray) (ca : Nat) (b : Option Addr) (ys : List ByteArray) (cb : Nat) (p : ByteArray) (q : Value) (w : World) (hp : p.size ≤ maxLen) (hxl : xs.length ≤ maxLen) (hyl : ys.length ≤ maxLen) (hX : StrsAt w a xs) (hY : StrsAt w b ys) :
    Calls Try.prog 4 #[.slice a xs.length ca, .slice b ys.length cb, .string p, q] w fun x w' => BOut (In4 xs ys p) x ∧ w = w' := by
  unfold maxLen at hp hxl hyl
  go_enter Try.func4, Try.ntmps4
  by_cases hs2 : xs.length ≤ 1048576
  case neg =>
    go_wp2
    all_goals
      go_ret
      exact ⟨Or.inl rfl, rfl⟩
  go_wp2
  go_loop [9, 10] (fun z i => ∃ k n : Nat, k ≤ xs.length ∧ i = .int .i64 k ∧ z = .int .i64 n ∧ n ≤ 1048576 ∧ Hid (∀ j, j < k → Sm (xs.getD j ⟨#[]⟩))) (fun _ i => xs.length - (intOf i).toNat)
  case atStart => exact ⟨0, xs.length, Nat.zero_le _, rfl, by go_num, hs2, fun j hj => absurd hj (by omega)⟩
  case round =>
    obtain ⟨k, n, hk, rfl, rfl, hn, HA⟩ := hrel
    by_cases hlt : k < xs.length
    · obtain ⟨sb, so, rfl, hsb, hc⟩ := hX k hlt
      obtain ⟨s, hs⟩ : ∃ s, xs.getD k ⟨#[]⟩ = s := ⟨_, rfl⟩
      rw [hs] at hc
      by_cases he : s.size ≤ 1048576
      · have HN : Hid (∀ j, j < k + 1 → Sm (xs.getD j ⟨#[]⟩)) := upto_succ HA.out (by rw [hs]; exact he)
        clear hs hX hY
        by_cases hne : n + s.size ≤ 1048576
        · go_wp2
          go_round
          case rel => exact ⟨k + 1, n + s.size, by omega, by go_num, by go_num, hne, HN⟩
          case measure => simp [intOf]; omega
        · go_wp2
          go_ret
          exact ⟨Or.inl rfl, rfl⟩
      · clear hs hX hY
        go_wp2
        go_ret
        exact ⟨Or.inl rfl, rfl⟩
    · have hkS : k = xs.length := by omega
      subst hkS
      by_cases hl2 : n + ys.length ≤ 1048576
      case neg =>
        clear hX hY
        go_wp2
        all_goals
          go_ret
          exact ⟨Or.inl rfl, rfl⟩
      clear hX
      go_wp2
      go_loop [9, 11] (fun z i => ∃ k n : Nat, k ≤ ys.length ∧ i = .int .i64 k ∧ z = .int .i64 n ∧ n ≤ 1048576 ∧ Hid (∀ j, j < k → Sm (ys.getD j ⟨#[]⟩))) (fun _ i => ys.length - (intOf i).toNat)
      case atStart => exact ⟨0, n + ys.length, Nat.zero_le _, rfl, by go_num, hl2, fun j hj => absurd hj (by omega)⟩
      case round =>
        obtain ⟨k, n, hk, rfl, rfl, hn, HC⟩ := hrel
        by_cases hlt : k < ys.length
        · obtain ⟨sb, so, rfl, hsb, hc⟩ := hY k hlt
          obtain ⟨s, hs⟩ : ∃ s, ys.getD k ⟨#[]⟩ = s := ⟨_, rfl⟩
          rw [hs] at hc
          by_cases he : s.size ≤ 1048576
          · have HN : Hid (∀ j, j < k + 1 → Sm (ys.getD j ⟨#[]⟩)) := upto_succ HC.out (by rw [hs]; exact he)
            clear hs hY
            by_cases hne : n + s.size ≤ 1048576
            · go_wp2
              go_round
              case rel => exact ⟨k + 1, n + s.size, by omega, by go_num, by go_num, hne, HN⟩
              case measure => simp [intOf]; omega
            · go_wp2
              go_ret
              exact ⟨Or.inl rfl, rfl⟩
          · clear hs hY
            go_wp2
            go_ret
            exact ⟨Or.inl rfl, rfl⟩
        · have hkL : k = ys.length := by omega
          subst hkL
          clear hY
          by_cases hp2 : p.size ≤ 1048576
          case neg =>
            go_wp2
            go_ret
            exact ⟨Or.inl rfl, rfl⟩
          by_cases hp3 : n + p.size ≤ 1048576
          case neg =>
            go_wp2
            all_goals
              go_ret
              exact ⟨Or.inl rfl, rfl⟩
          have HP : Hid (In4 xs ys p) := ⟨by omega, by omega, HA.out, HC.out, hp2⟩
          go_wp2
          go_ret
          exact ⟨Or.inr ⟨rfl, HP.out⟩, rfl⟩
end Go.Proofs.Qxb6616426a
