/-
  Rows that are appended to; the walk of nonzeroB1.
-/
import Derived.Test.Qxb6616132aGrowMore
import Derived.Test.Qxb6616132aGrowLaw2
import Derived.Deep.QuietTactic
import Derived.BigQuiet
namespace Go.Proofs.Qxb6616132a
open Go.RowKit

/-- 'make([]uint64, 0, n)'. -/
theorem make0_u64 (n : Nat) (hn : n ≤ 1073741824) (w : World) :
    (Instr.makeSlice 30 (.int .i64 0) (.int .i64 (n : Int))).run Try.prog w = .ok (.slice (some ⟨w.heap.size, 0, none⟩) 0 n) (w.alloc (.cells (cellsU (zerosU n)) 39)) := by
  obtain ⟨i0, hi, hz0, hz1, hz2⟩ := info_parts Try.info39
  rw [run_make (P := Try.prog) w 30 39 i0 (.int .u64 0) Try.underlying30 hi hz0 .i64 .i64 0 n (Int.le_refl _) (by omega) (by rw [hz2]; omega) (by omega)]
  rw [hz1, made_one _ rfl]
  have e : Array.replicate ((n : Int).toNat * 1) (Value.int .u64 0) = cellsU (zerosU n) := by simp [cellsU, zerosU]
  rw [e]
  simp

/-- The slice of n elements, capacity cap, at the head of block g, one of the call's own, holds xs. -/
def OwnU (w : World) (g n cap : Nat) (xs : List Int) : Prop := w.ownsRow g 39 1 (.slice (some ⟨g, 0, none⟩) n cap) n (xs.map (Value.int .u64))

theorem OwnU.made (w : World) (n : Nat) (hn : n ≤ 1073741824) : OwnU (w.alloc (.cells (cellsU (zerosU n)) 39)) w.heap.size 0 n [] := by
  have := World.ownsRow_made (base := w.heap.size) (e := 39) (size := 1) w (cellsU (zerosU n)) n (Nat.le_refl _) (by unfold maxLen; omega) (by simp [cellsU, zerosU])
  exact this
theorem OwnU.row {w : World} {g n cap : Nat} {xs : List Int} (h : OwnU w g n cap xs) (hx : xs.length = n) : RowU w g 0 xs := by
  intro i hi
  have h' := World.ownsRow.cellAt h i (by omega)
  rw [Nat.zero_add, h']
  simp [hi]
theorem OwnU.lt {w : World} {g n cap : Nat} {xs : List Int} (h : OwnU w g n cap xs) : g < w.heap.size := (World.ownsRow.lt h g rfl).2

theorem own_push {w1 : World} {g m cap : Nat} {xs : List Int} {z : Int} (h : w1.ownsRow g 39 1 (.slice (some ⟨g, 0, none⟩) (m + 1) cap) (m + 1) (xs.map (Value.int .u64) ++ [.int .u64 z])) : OwnU w1 g (m + 1) cap (xs ++ [z]) := by
  unfold OwnU
  rw [List.map_append]
  exact h
theorem below_push {B g : Nat} {w wr w1 : World} {o : Obj} (h : Below B w wr) (hB : B ≤ wr.heap.size) (hg : (wr.alloc o).grownBy w1 (some g)) (hBg : B ≤ g) : Below B w w1 :=
  (h.alloc hB _).grown hg (by simp; omega) (fun k hk => by cases hk; exact hBg)

theorem nz_take (zs : List Int) (k : Nat) (h : k < zs.length) : nzU (zs.take (k + 1)) = nzU (zs.take k) ++ nzU [zs.getD k 0] := by
  rw [List.take_succ_eq_append_getElem h]
  unfold nzU
  rw [List.filter_append]
  simp [List.getD_eq_getElem?_getD, h]
theorem nz_le (zs : List Int) : (nzU zs).length ≤ zs.length := List.length_filter_le _ _

set_option maxRecDepth 4000 in
set_option maxHeartbeats 800000 in
theorem nonzero_any (a : Option Addr) (zs : List Int) (cap : Nat) (hn : zs.length ≤ 1073741824) (w : World) (hs : SlU w a zs) :
    Calls Try.prog 18 #[.slice a zs.length cap] w fun e w' => e = .returned (.slice (some ⟨w.heap.size, 0, none⟩) (nzU zs).length zs.length) ∧ OwnU w' w.heap.size (nzU zs).length zs.length (nzU zs) ∧ Below w.heap.size w w' := by
  obtain ⟨i0, hi, hz0, hz1, hz2⟩ := info_parts Try.info39
  have hmk := make0_u64 zs.length hn
  go_enter Try.func18, Try.ntmps18
  go_wp2
  go_loopw [3, 4] (fun o i wr => ∃ k m : Nat, k ≤ zs.length ∧ i = .int .i64 k ∧ o = .slice (some ⟨w.heap.size, 0, none⟩) m zs.length ∧ m ≤ k ∧ Hid ((nzU (zs.take k)).length = m) ∧ Hid (OwnU wr w.heap.size m zs.length (nzU (zs.take k))) ∧ Hid (Below w.heap.size w wr)) (fun _ i _ => zs.length - (intOf i).toNat)
  case atStart => exact ⟨0, 0, Nat.zero_le _, rfl, rfl, Nat.le_refl _, rfl, OwnU.made w _ hn, (Below.refl _ _).alloc (Nat.le_refl _) _⟩
  case round =>
    obtain ⟨k, m, hk, rfl, rfl, hmk', HM, HO, HB⟩ := hrel
    clear hmk
    have hws := HB.out.size
    by_cases hlt : k < zs.length
    · obtain ⟨b, off, rfl, hb, hck⟩ := hs k hlt
      rw [← HB.out.cell (by exact hb)] at hck
      have hst := nz_take zs k hlt
      obtain ⟨z, hz⟩ : ∃ z, zs.getD k 0 = z := ⟨_, rfl⟩
      rw [hz] at hck hst
      have HS : Hid (nzU (zs.take (k + 1)) = nzU (zs.take k) ++ nzU [z]) := hst
      clear hst hz hs
      by_cases hz0' : z = 0
      · have hzb : (z != 0) = false := by simp [hz0']
        have HS2 : Hid (nzU (zs.take (k + 1)) = nzU (zs.take k)) := by rw [HS.out, hz0']; exact List.append_nil _
        clear hz0'
        go_wp2
        go_roundw
        case rel => exact ⟨k + 1, m, by omega, by go_num, rfl, by omega, HS2.out ▸ HM, HS2.out ▸ HO, HB⟩
        case measure => simp [intOf]; omega
      · have hzb : (z != 0) = true := by simp [hz0']
        have HS2 : Hid (nzU (zs.take (k + 1)) = nzU (zs.take k) ++ [z]) := by rw [HS.out]; simp [nzU, hz0', Hid]
        have hown := HO.out
        unfold OwnU at hown
        clear hz0'
        go_wp2_with (at_builtin; refine wpList_append_fits _ rfl (.tmp 19) (.tmp 24) 30 rfl w.heap.size 39 i0 1 Try.underlying30 hi hz1 w.heap.size m zs.length _ rfl (hown.alloc _) ⟨wr.heap.size, 0, none⟩ 1 1 [.int .u64 z] rfl rfl (by intro t u h; match t, h with | 0, h => (simp at h; subst h; simp [Addr.add])) (by intro u hu; simp at hu; subst hu; rfl) (by omega) ?_; intro w1 hown1 hgrow1)
        go_roundw
        case rel => exact ⟨k + 1, m + 1, by omega, by go_num, rfl, by omega, by rw [HS2.out, List.length_append, HM.out]; rfl, HS2.out ▸ own_push hown1, below_push HB.out hws hgrow1 (Nat.le_refl _)⟩
        case measure => simp [intOf]; omega
    · have hkz : k = zs.length := by omega
      subst hkz
      have e : zs.take zs.length = zs := List.take_length
      have HM' : Hid ((nzU zs).length = m) := by have := HM.out; rw [e] at this; exact this
      have HO' : Hid (OwnU wr w.heap.size m zs.length (nzU zs)) := by have := HO.out; rw [e] at this; exact this
      clear e hs
      go_wp2
      go_ret
      exact ⟨by rw [HM'.out]; rfl, by rw [HM'.out]; exact HO'.out, HB.out⟩
end Go.Proofs.Qxb6616132a
