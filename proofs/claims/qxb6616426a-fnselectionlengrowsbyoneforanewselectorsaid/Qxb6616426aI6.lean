/-
  THE WALK of ZZselectionLen.
-/
import Derived.Test.Qxb6616426aI5
namespace Go.Proofs.Qxb6616426a
open Go.RowKit

theorem Try.info39 : (Try.prog.info? 39).map (fun i => (i.zero, i.size, i.bytes)) = some (some (.agg #[.int .i64 0, .int .i64 0]), 2, 16) := by kernel_rfl

theorem pair_new (w : World) (z1 z2 : Int) : ∀ j u, [Value.int .i64 z1, Value.int .i64 z2][j]? = some u → (w.alloc (.cells #[.int .i64 z1, .int .i64 z2] 39)).drew.cell? ((⟨w.heap.size, 0, none⟩ : Addr).add j) = some u := by
  intro j u h
  have e : (w.alloc (.cells #[.int .i64 z1, .int .i64 z2] 39)).drew.cell? ((⟨w.heap.size, 0, none⟩ : Addr).add j) = (w.alloc (.cells #[.int .i64 z1, .int .i64 z2] 39)).cell? ((⟨w.heap.size, 0, none⟩ : Addr).add j) := rfl
  rw [e, Addr.add_lit, Nat.zero_add, blk_cell (heap_alloc_new w _)]
  match j, h with
  | 0, h => exact h
  | 1, h => exact h
  | j + 2, h => simp at h
theorem pair_one (z1 z2 : Int) : ∀ u ∈ [Value.int .i64 z1, Value.int .i64 z2], u.oneCell' = true := by
  intro u hu
  simp at hu
  rcases hu with rfl | rfl <;> rfl
theorem own_block {B : Nat} {w : World} {e : TypeId} {size : Nat} {v : Value} {n : Nat} {xs : List Value} (h : w.ownsRow B e size v n xs) : ∀ k, v.ownBlock = some k → B ≤ k := by
  intro k hk
  rcases h.2 with ⟨e, _⟩ | ⟨g, cap, cur, e, hb, _⟩
  · rw [e] at hk; cases hk
  · rw [e] at hk; simp [Value.ownBlock] at hk; subst hk; exact hb

set_option maxRecDepth 4000 in
set_option maxHeartbeats 1600000 in
theorem sel_any (b1 b2 : Nat) (xs ys : List ByteArray) (hx : xs.length ≤ 1048577) (hy : ys.length ≤ 1048577) (a1 a2 : Option Addr) (n c1 c2 : Nat) (hn : n ≤ 1048577) (w : World) (h1 : SetAt w b1 xs xs.length) (h2 : SetAt w b2 ys ys.length) (hl : IntsAt w (.slice a1 n c1) n) (hc : IntsAt w (.slice a2 n c2) n) :
    Calls Try.prog 11 #[.map (some b1), .map (some b2), .slice a1 n c1, .slice a2 n c2] w fun e w' => e = .returned (.int .i64 ((dists xs + dists ys : Nat) : Int)) ∧ Below w.heap.size w w' := by
  obtain ⟨i0, hi, hz0, hz1, hz2⟩ := info_parts Try.info39
  have H1 : Hid (SetAt w b1 xs xs.length) := h1
  have H2 : Hid (SetAt w b2 ys ys.length) := h2
  clear h1 h2
  go_enter Try.func11, Try.ntmps11
  go_wp2
  go_loopw [9, 10, 14] (fun v _ j wr => ∃ (k : Nat) (zs : List Value), k ≤ n ∧ j = .int .i64 k ∧ Hid (wr.ownsRow w.heap.size 39 2 v k zs) ∧ Hid (Below w.heap.size w wr)) (fun _ _ j _ => n - (intOf j).toNat)
  case atStart => exact ⟨0, [], Nat.zero_le _, rfl, ⟨rfl, .inl ⟨rfl, rfl⟩⟩, Below.refl _ _⟩
  case round =>
    obtain ⟨k, zs, hk, rfl, HO, HB⟩ := hrel
    by_cases hlt : k < n
    · obtain ⟨a, c, e, hl⟩ := hl
      cases e
      obtain ⟨a', c', e, hc⟩ := hc
      cases e
      obtain ⟨p1, o1, z1, rfl, hp1, hz1c⟩ := hl k hlt
      obtain ⟨p2, o2, z2, rfl, hp2, hz2c⟩ := hc k hlt
      rw [← HB.out.cell (by exact hp1)] at hz1c
      rw [← HB.out.cell (by exact hp2)] at hz2c
      have hki : (k : Int) < (n : Int) := by omega
      clear hl hc
      have HOd : Hid ((wr.alloc (.cells #[.int .i64 z1, .int .i64 z2] 39)).drew.ownsRow w.heap.size 39 2 u9 k zs) := (HO.out.alloc _).drew
      have HBd : Hid (Below w.heap.size w (wr.alloc (.cells #[.int .i64 z1, .int .i64 z2] 39)).drew) := (HB.out.alloc HB.out.size _).drew
      have HNw : Hid (∀ j u, [Value.int .i64 z1, Value.int .i64 z2][j]? = some u → (wr.alloc (.cells #[.int .i64 z1, .int .i64 z2] 39)).drew.cell? ((⟨wr.heap.size, 0, none⟩ : Addr).add j) = some u) := pair_new wr z1 z2
      go_wp2
      go_region_law (refine step_append_own rfl (.tmp 17) (.tmp 27) 37 rfl w.heap.size 39 i0 _ 2 16 Try.underlying37 hi hz0 hz1 hz2 rfl (by decide) u9 k zs (by simp [Act.eval]) HOd.out ⟨wr.heap.size, 0, none⟩ 1 1 [.int .i64 z1, .int .i64 z2] (by simp [Act.eval]) rfl HNw.out (pair_one z1 z2) (by unfold maxLen; omega) (by omega) HBd.out.size ?_; intro v' w' hown' hgrow')
      all_goals
        have HO' : Hid (w'.ownsRow w.heap.size 39 2 v' (k + 1) (zs ++ [.int .i64 z1, .int .i64 z2])) := hown'
        have HB' : Hid (Below w.heap.size w w') := HBd.out.grown hgrow' HBd.out.size (own_block HOd.out)
        clear hown' hgrow'
        go_wp2_with fail
        go_roundw
        case rel => exact ⟨k + 1, _, by omega, by go_num, HO', HB'⟩
        case measure => simp [intOf]; omega
    · clear hl hc
      have HS1 : Hid (SetAt wr b1 xs xs.length) := H1.out.below HB.out
      have HS2 : Hid (SetAt wr b2 ys ys.length) := H2.out.below HB.out
      have HB2 : ∀ v : Value, Hid (Below wr.heap.size wr (wr.alloc (.cells #[.map (some b1), .map (some b2), v] 42))) := fun v => (Below.refl _ _).alloc (Nat.le_refl _) _
      rcases HO.out.2 with ⟨rfl, _⟩ | ⟨g, cp, cur, rfl, _⟩
      all_goals
        clear HO
        go_wp2_with fail
        refine Calls.mono (len_any wr.heap.size b1 b2 xs ys hx hy _ (by rw [blk_cell (heap_alloc_new wr _)]; rfl) (by rw [blk_cell (heap_alloc_new wr _)]; rfl) (HS1.out.below (HB2 _).out) (HS2.out.below (HB2 _).out)) ?_
        rintro e w' ⟨rfl, hb⟩
        have HB3 : Hid (Below w.heap.size w w') := (HB.out.trans ((HB2 _).out.mono HB.out.size)).trans (hb.mono (Nat.le_trans HB.out.size (HB2 _).out.size))
        clear hb HB2
        go_wp2_with fail
        go_ret
        exact ⟨rfl, HB3.out⟩
end Go.Proofs.Qxb6616426a
