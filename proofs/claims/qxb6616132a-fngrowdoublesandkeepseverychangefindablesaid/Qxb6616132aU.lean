/-
  ROWS OF uint64 THAT THE CALL ITSELF MAKES: their cells, 'make', a store; cloneU64B1's walk.
-/
import Derived.Test.Qxb6616132aRows
import Derived.WalkKit
import Derived.WalkSpells
import Derived.WalkLawsBesides
namespace Go.Proofs.Qxb6616132a
open Go.RowKit

/-- The cells of a row of uint64. -/
def cellsU (zs : List Int) : Array Value := (zs.map (Value.int .u64)).toArray
def zerosU (n : Nat) : List Int := List.replicate n 0

theorem cellsU_get (zs : List Int) (k : Nat) (h : k < zs.length) : (cellsU zs)[k]? = some (.int .u64 (zs.getD k 0)) := by
  simp [cellsU, h]
theorem cellsU_set (zs : List Int) (k : Nat) (v : Int) : (cellsU zs).setIfInBounds k (.int .u64 v) = cellsU (zs.set k v) := by
  simp [cellsU]

/-- The slice reads as zs in w: its cells lie at b, off, .. -/
def RowU (w : World) (b off : Nat) (zs : List Int) : Prop := ∀ i, i < zs.length → w.cell? ⟨b, off + i, none⟩ = some (.int .u64 (zs.getD i 0))

theorem RowU.new (w : World) (zs : List Int) : RowU (w.alloc (.cells (cellsU zs) 39)) w.heap.size 0 zs := by
  intro i hi
  have := cellsU_get zs i hi
  simp [go_sem, this]

theorem RowU.below {w w' : World} {b off : Nat} {zs : List Int} (h : RowU w b off zs) (hb : Below w.heap.size w w') (hlt : b < w.heap.size) : RowU w' b off zs := by
  intro i hi
  rw [hb.cell (by exact hlt)]
  exact h i hi

theorem Try.info39 : (Try.prog.info? 39).map (fun i => (i.zero, i.size, i.bytes)) = some (some (.int .u64 0), 1, 8) := by kernel_rfl

theorem made_one (v : Value) (h : Value.cells v = #[v]) (n : Nat) : madeCells (Value.cells v) n = Array.replicate n v := by
  apply Array.ext
  · simp [size_madeCells]
  · intro i h1 h2
    simp [madeCells, h, Nat.mod_one]

theorem make_u64 (n : Nat) (hn : n ≤ 1073741824) (w : World) :
    (Instr.makeSlice 30 (.int .i64 (n : Int)) (.int .i64 (n : Int))).run Try.prog w = .ok (.slice (some ⟨w.heap.size, 0, none⟩) n n) (w.alloc (.cells (cellsU (zerosU n)) 39)) := by
  obtain ⟨i0, hi, hz0, hz1, hz2⟩ := info_parts Try.info39
  rw [run_make (P := Try.prog) w 30 39 i0 (.int .u64 0) Try.underlying30 hi hz0 .i64 .i64 n n (by omega) (Int.le_refl _) (by rw [hz2]; omega) (by omega)]
  rw [hz1, made_one _ rfl]
  have e : Array.replicate ((n : Int).toNat * 1) (Value.int .u64 0) = cellsU (zerosU n) := by simp [cellsU, zerosU]
  rw [e]
  simp

/-- The first k elements copied, the rest zero. -/
def cpU (zs : List Int) (k : Nat) : List Int := zs.take k ++ zerosU (zs.length - k)
theorem cpU_length (zs : List Int) (k : Nat) (h : k ≤ zs.length) : (cpU zs k).length = zs.length := by simp [cpU, zerosU]; omega
theorem cpU_zero (zs : List Int) : cpU zs 0 = zerosU zs.length := by simp [cpU]
theorem cpU_end (zs : List Int) : cpU zs zs.length = zs := by simp [cpU, zerosU]
theorem cpU_get (zs : List Int) (k : Nat) (h : k < zs.length) : ∃ v, (cellsU (cpU zs k))[k]? = some v := by
  refine ⟨_, cellsU_get _ _ ?_⟩
  rw [cpU_length _ _ (by omega)]; exact h
theorem cpU_getD (zs : List Int) (k i : Nat) : (cpU zs k).getD i 0 = if i < k then zs.getD i 0 else 0 := by
  unfold cpU zerosU
  simp only [List.getD_eq_getElem?_getD, List.getElem?_append, List.length_take, List.getElem?_take, List.getElem?_replicate]
  by_cases h1 : i < k
  · by_cases h2 : i < zs.length
    · simp [h1, h2, show i < min k zs.length by omega]
    · have e : zs[i]? = none := by simp; omega
      simp only [h1, e, if_true, Option.getD_none]
      split
      · rfl
      · split <;> rfl
  · simp [h1, show ¬ i < min k zs.length by omega]
    split <;> simp
theorem ext_getD (a b : List Int) (hl : a.length = b.length) (h : ∀ i, i < a.length → a.getD i 0 = b.getD i 0) : a = b := by
  apply List.ext_getElem hl
  intro i h1 h2
  have := h i h1
  simpa [List.getD_eq_getElem?_getD, h1, h2] using this
theorem set_getD (a : List Int) (k i : Nat) (v : Int) (h : i < a.length) : (a.set k v).getD i 0 = if k = i then v else a.getD i 0 := by
  simp only [List.getD_eq_getElem?_getD, List.getElem?_set]
  by_cases e : k = i
  · subst e; simp [h]
  · simp [e]
theorem cpU_set (zs : List Int) (k : Nat) (h : k < zs.length) : (cpU zs k).set k (zs[k]) = cpU zs (k + 1) := by
  apply ext_getD
  · rw [List.length_set, cpU_length _ _ (by omega), cpU_length _ _ (by omega)]
  · intro i hi
    rw [List.length_set] at hi
    rw [set_getD _ _ _ _ hi, cpU_getD, cpU_getD]
    by_cases e : k = i
    · subst e; simp [h]
    · by_cases h1 : i < k
      · simp [e, h1, show i < k + 1 by omega]
      · simp [e, h1, show ¬ i < k + 1 by omega]
theorem cpU_step (zs : List Int) (k : Nat) (h : k < zs.length) : (cellsU (cpU zs k)).setIfInBounds k (.int .u64 (zs[k])) = cellsU (cpU zs (k + 1)) := by
  rw [cellsU_set, cpU_set zs k h]

theorem clone_nil (n cap : Nat) (w : World) :
    Calls Try.prog 12 #[.slice none n cap] w fun e w' => e = .returned (.slice none 0 0) ∧ w = w' := by
  have hnil := fun w => Lib.run_eql_slice_nil (P := Try.prog) w 30 39 none n cap 0 0 Try.underlying30
  go_enter Try.func12, Try.ntmps12
  go_wp2
  go_ret
  exact ⟨rfl, rfl⟩

set_option maxRecDepth 4000 in
set_option maxHeartbeats 400000 in
theorem clone_some (b off : Nat) (zs : List Int) (cap : Nat) (hn : zs.length ≤ 1073741824) (w : World) (hb : b < w.heap.size) (hc : RowU w b off zs) :
    Calls Try.prog 12 #[.slice (some ⟨b, off, none⟩) zs.length cap] w fun e w' => e = .returned (.slice (some ⟨w.heap.size, 0, none⟩) zs.length zs.length) ∧ w' = w.alloc (.cells (cellsU zs) 39) := by
  have hmk := make_u64 zs.length hn
  have hnil := fun w => Lib.run_eql_slice_nil (P := Try.prog) w 30 39 (some ⟨b, off, none⟩) zs.length cap 0 0 Try.underlying30
  go_enter Try.func12, Try.ntmps12
  go_wp2
  go_loopw [4] (fun i wr => ∃ k : Nat, k ≤ zs.length ∧ i = .int .i64 k ∧ wr = w.alloc (.cells (cellsU (cpU zs k)) 39)) (fun i _ => zs.length - (intOf i).toNat)
  case atStart => exact ⟨0, Nat.zero_le _, rfl, by rw [cpU_zero]⟩
  case round =>
    obtain ⟨k, hk, rfl, rfl⟩ := hrel
    by_cases hlt : k < zs.length
    · have hck := hc k hlt
      obtain ⟨v0, hv0⟩ := cpU_get zs k hlt
      have HS : Hid ((cellsU (cpU zs k)).setIfInBounds k (.int .u64 (zs[k])) = cellsU (cpU zs (k + 1))) := cpU_step zs k hlt
      clear hmk hnil hc
      go_wp2
      go_roundw
      case rel => exact ⟨k + 1, by omega, by go_num, by rw [← HS.out]⟩
      case measure => simp [intOf]; omega
    · have hkz : k = zs.length := by omega
      subst hkz
      clear hmk hnil hc
      go_wp2
      go_ret
      exact ⟨rfl, by rw [cpU_end]⟩
end Go.Proofs.Qxb6616132a
