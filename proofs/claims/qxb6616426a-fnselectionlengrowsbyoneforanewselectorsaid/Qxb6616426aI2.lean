/-
  THE WALKS of zzSet and of (*selection).len.
-/
import Derived.Test.Qxb6616426aI1
import Derived.StringKeys
namespace Go.Proofs.Qxb6616426a
open Go.RowKit Go.Maps Go.MapKept Go.ChangeMaps Go.WideShapes

theorem law : Keyed Try.prog 9 := string_keyed Try.underlying9
/-- Block b is the set of the first k strings. -/
def SetAt (w : World) (b : Nat) (xs : List ByteArray) (k : Nat) : Prop := w.ownsMap (H := Unit) Try.prog 9 unitElem b k (setD xs k)

theorem keyAt {x : ByteArray} (h : x.size ≤ maxLen) : keyOf Try.prog 9 (.string x) = some (keyLit x) := Go.WideMaps.keyOf_string_mk Try.underlying9 h

set_option maxRecDepth 4000 in
set_option maxHeartbeats 800000 in
theorem set_any (a : Option Addr) (xs : List ByteArray) (cap : Nat) (hn : xs.length ≤ 1048577) (hsz : ∀ i, (xs.getD i ⟨#[]⟩).size ≤ 1048576) (w : World) (hS : StrsAt w a xs) :
    Calls Try.prog 12 #[.slice a xs.length cap] w fun e w' => e = .returned (.map (some w.heap.size)) ∧ Hid (SetAt w' w.heap.size xs xs.length) ∧ Below w.heap.size w w' := by
  have hmm := @run_makeMap Try.prog
  go_enter Try.func12, Try.ntmps12
  go_wp2
  go_loopw [5, 9] (fun _ j wr => ∃ k : Nat, k ≤ xs.length ∧ j = .int .i64 k ∧ Hid (SetAt wr w.heap.size xs k) ∧ Hid (Below w.heap.size w wr)) (fun _ j _ => xs.length - (intOf j).toNat)
  case atStart => exact ⟨0, Nat.zero_le _, rfl, World.ownsMap_made _ _ _ _, (Below.refl _ _).alloc (Nat.le_refl _) _⟩
  case round =>
    clear hmm
    obtain ⟨k, hk, rfl, HM, HB⟩ := hrel
    by_cases hlt : k < xs.length
    · obtain ⟨b, off, rfl, hb, hc⟩ := hS k hlt
      have hx1 := hsz k
      obtain ⟨x, hx⟩ : ∃ x, xs.getD k ⟨#[]⟩ = x := ⟨_, rfl⟩
      have HX : Hid (xs.getD k ⟨#[]⟩ = x) := hx
      rw [hx] at hc hx1
      rw [← HB.out.cell (by exact hb)] at hc
      have hkey : keyOf Try.prog 9 (.string x) = some (keyLit x) := keyAt (by unfold maxLen; omega)
      clear hx hS hsz
      go_wp2_with (at_mapUpdate; refine wpList_mapUpdate_own (H := Unit) _ rfl _ _ _ 33 rfl 9 44 law Try.underlying33 unitElem w.heap.size k _ rfl HM.out (by unfold maxLen; omega) _ _ _ rfl rfl hkey _ [] unitElem_mk ?_; intro w1 hown1 hgrow1)
      have HM' : Hid (SetAt w1 w.heap.size xs (k + 1)) := by rw [Hid, SetAt, setD, HX.out]; exact hown1
      have HB' : Hid (Below w.heap.size w w1) := HB.out.grown hgrow1 HB.out.size (fun j hj => by cases hj; exact Nat.le_refl _)
      clear hown1 hgrow1
      go_wp2_with fail
      go_roundw
      case rel => exact ⟨k + 1, by omega, by go_num, HM', HB'⟩
      case measure => simp [intOf]; omega
    · have hkx : k = xs.length := by omega
      subst hkx
      clear hS
      go_wp2
      go_ret
      exact ⟨rfl, HM, HB.out⟩

theorem set_len {w : World} {b : Nat} {xs : List ByteArray} (h : SetAt w b xs xs.length) (ty : TypeId) : (Builtin.len_ #[33] ty #[.map (some b)]).run Try.prog w = .ok (.int .i64 (dists xs : Int)) w := by
  have := h.len Try.underlying33 ty
  rw [this, setD_size]
  rfl
theorem SetAt.below {w w' : World} {b : Nat} {xs : List ByteArray} {k : Nat} (h : SetAt w b xs k) (hb : Below w.heap.size w w') : SetAt w' b xs k := by
  obtain ⟨es, clock, h1, r⟩ := h
  have hlt : b < w.heap.size := by
    rcases Nat.lt_or_ge b w.heap.size with h' | h'
    · exact h'
    · rw [Array.getElem?_eq_none h'] at h1; cases h1
  exact ⟨es, clock, by rw [hb.block b hlt]; exact h1, r⟩

set_option maxRecDepth 4000 in
set_option maxHeartbeats 800000 in
theorem len_any (p b1 b2 : Nat) (xs ys : List ByteArray) (hx : xs.length ≤ 1048577) (hy : ys.length ≤ 1048577) (w : World) (c0 : w.cell? ⟨p, 0, none⟩ = some (.map (some b1))) (c1 : w.cell? ⟨p, 1, none⟩ = some (.map (some b2)))
    (h1 : SetAt w b1 xs xs.length) (h2 : SetAt w b2 ys ys.length) :
    Calls Try.prog 14 #[.pointer (some ⟨p, 0, none⟩)] w fun e w' => e = .returned (.int .i64 ((dists xs + dists ys : Nat) : Int)) ∧ Below w.heap.size w w' := by
  have l1 : dists xs ≤ xs.length := dist_le _ _
  have l2 : dists ys ≤ ys.length := dist_le _ _
  have e1 := fun (n : Nat) ty => set_len (w := w.drewN n) h1 ty
  have e2 := fun (n : Nat) ty => set_len (w := w.drewN n) h2 ty
  generalize dists xs = m1 at *
  generalize dists ys = m2 at *
  clear h1 h2
  go_enter Try.func14, Try.ntmps14
  go_wp2
  go_quiet (fail)
  go_wp2
  go_ret
  exact ⟨ret_int (by go_num), below_drewN (Below.refl _ _) _⟩
end Go.Proofs.Qxb6616426a
