/-
  THE WALKS of winner.beats and wins.
-/
import Derived.Test.Qxb6616132aRows
import Derived.Test.Qxb6616132aFoldLaw
import Derived.WalkKit
import Derived.WalkSpells
import Derived.WalkLawsBesides
import Derived.Deep.RegionWith
import Derived.Deep.QuietTactic
import Derived.BigQuiet
namespace Go.Proofs.Qxb6616132a
open Go.RowKit

set_option maxHeartbeats 400000 in
theorem beats_any (v1 v2 : ByteArray) (t1 t2 : Int) (p1 p2 : Bool) (w : World) :
    Calls Try.prog 25 #[.agg #[.string v1, .int .i64 t1, .bool p1], .agg #[.string v2, .int .i64 t2, .bool p2]] w fun e w' => e = .returned (.bool (beatsB ⟨v1, t1, p1⟩ ⟨v2, t2, p2⟩)) ∧ Below w.heap.size w w' := by
  go_enter Try.func25, Try.ntmps25
  go_wp2
  all_goals
    go_ret
    refine ⟨?_, ((Below.refl _ _).alloc (Nat.le_refl _) _).alloc (by simp) _⟩
  · have h : ¬ t1 = t2 := by simpa using ‹(t1 != t2) = true›
    simp [beatsB, h]
  · have h : t1 = t2 := by simpa using ‹(t1 != t2) = false›
    have h' : ¬ p1 = p2 := by simpa using ‹(!p1 == p2) = true›
    simp [beatsB, h, h']
  · have h : t1 = t2 := by simpa using ‹(t1 != t2) = false›
    have h' : p1 = p2 := by simpa using ‹(!p1 == p2) = false›
    simp [beatsB, h, h', gtS]

theorem bcell {W w1 : World} (hb : Below W.heap.size W w1) : (∀ b o, b < W.heap.size → w1.cell? ⟨b, o, none⟩ = W.cell? ⟨b, o, none⟩) ∧ (∀ b o, b < W.heap.size → w1.frozen? ⟨b, o, none⟩ = W.frozen? ⟨b, o, none⟩) :=
  ⟨fun b o h => hb.cell (p := ⟨b, o, none⟩) h, fun b o h => hb.frozen (p := ⟨b, o, none⟩) h⟩

set_option maxHeartbeats 400000 in
theorem wins_new (s1 s2 s3 s4 s6 s7 s8 s9 s11 : Value) (k : Int) (v cv : ByteArray) (t ct : Int) (cp : Bool) (w : World) :
    Calls Try.prog 23 #[.agg #[.int .u8 k, s1, s2, s3, s4, .string v, s6, s7, s8, s9, .int .i64 t, s11], .agg #[.string cv, .int .i64 ct, .bool cp], .bool false] w
      fun e w' => e = .returned (.tuple #[.agg #[.string v, .int .i64 t, .bool (k == 3)], .bool true]) ∧ Below w.heap.size w w' := by
  go_enter Try.func23, Try.ntmps23
  go_wp2_with fail
  go_region_with fail
  all_goals
    go_wp2
    exact bodyPost_ret (v := .tuple #[.agg #[.string v, .int .i64 t, .bool (k == 3)], .bool true]) (by simp [results, Try.results23, go_sem]) rfl ⟨rfl, (((((Below.refl _ _).alloc (Nat.le_refl _) _).alloc (by simp) _).alloc (by simp; omega) _).alloc (by simp; omega) _).drew⟩
set_option maxHeartbeats 400000 in
theorem wins_held (s1 s2 s3 s4 s6 s7 s8 s9 s11 : Value) (k : Int) (v cv : ByteArray) (t ct : Int) (cp : Bool) (w : World) :
    Calls Try.prog 23 #[.agg #[.int .u8 k, s1, s2, s3, s4, .string v, s6, s7, s8, s9, .int .i64 t, s11], .agg #[.string cv, .int .i64 ct, .bool cp], .bool true] w
      fun e w' => e = .returned (.tuple #[.agg #[.string v, .int .i64 t, .bool (k == 3)], .bool (beatsB ⟨v, t, k == 3⟩ ⟨cv, ct, cp⟩)]) ∧ Below w.heap.size w w' := by
  go_enter Try.func23, Try.ntmps23
  go_wp2_with fail
  go_region_with (go_at_call 25; refine (beats_any _ _ _ _ _ _ _).mono ?_; rintro e w' ⟨rfl, hb⟩; obtain ⟨hc, hf⟩ := bcell hb)
  all_goals go_wp2
  all_goals
    have hz : w.heap.size + 1 + 1 + 1 + 1 ≤ w'.heap.size := by have := hb.size; simp at this; omega
    refine bodyPost_ret (v := .tuple #[.agg #[.string v, .int .i64 t, .bool (k == 3)], .bool (beatsB ⟨v, t, k == 3⟩ ⟨cv, ct, cp⟩)]) (by simp [results, Try.results23, go_sem, hc]) rfl ⟨rfl, ?_⟩
    refine ((Below.trans ?_ (hb.mono (by simp; omega))).setCell (by simp; omega) _).setCell (by simp; omega) _ |>.setCell (by simp; omega) _
    exact (((((Below.refl _ _).alloc (Nat.le_refl _) _).alloc (by simp) _).alloc (by simp; omega) _).alloc (by simp; omega) _).drew

end Go.Proofs.Qxb6616132a
