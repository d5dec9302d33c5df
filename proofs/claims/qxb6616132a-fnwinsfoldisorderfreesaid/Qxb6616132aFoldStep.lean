/-
  THE WALKS of ZZwins and stepB1.
-/
import Derived.Test.Qxb6616132aFoldWins
namespace Go.Proofs.Qxb6616132a
open Go.RowKit
theorem ret_tup {a b : Value} (h : a = b) : Ending.returned a = .returned b := by rw [h]

set_option maxHeartbeats 400000 in
theorem zzwins_new (s1 s2 s3 s4 s6 s7 s8 s9 s11 : Value) (k : Int) (v cv : ByteArray) (t ct : Int) (cp : Bool) (w : World) :
    Calls Try.prog 8 #[.agg #[.int .u8 k, s1, s2, s3, s4, .string v, s6, s7, s8, s9, .int .i64 t, s11], .string cv, .int .i64 ct, .bool cp, .bool false] w
      fun e w' => e = .returned (.tuple #[.string v, .int .i64 t, .bool (k == 3), .bool true]) ∧ Below w.heap.size w w' := by
  go_enter Try.func8, Try.ntmps8
  go_wp2_with (go_at_call 23; refine (wins_new _ _ _ _ _ _ _ _ _ _ _ _ _ _ _ _).mono ?_; rintro e w' ⟨rfl, hb⟩)
  go_quiet (fail)
  go_wp2
  have hz : w.heap.size ≤ w'.heap.size := by have := hb.size; simp at this; omega
  refine bodyPost_ret (v := .tuple #[.string v, .int .i64 t, .bool (k == 3), .bool true]) (by simp [results, Try.results8, go_sem]) rfl ⟨rfl, ?_⟩
  exact below_drewN ((((Below.refl _ _).alloc (Nat.le_refl _) _).trans (hb.mono (by simp))).alloc hz _) _
set_option maxHeartbeats 400000 in
theorem zzwins_held (s1 s2 s3 s4 s6 s7 s8 s9 s11 : Value) (k : Int) (v cv : ByteArray) (t ct : Int) (cp : Bool) (w : World) :
    Calls Try.prog 8 #[.agg #[.int .u8 k, s1, s2, s3, s4, .string v, s6, s7, s8, s9, .int .i64 t, s11], .string cv, .int .i64 ct, .bool cp, .bool true] w
      fun e w' => e = .returned (.tuple #[.string v, .int .i64 t, .bool (k == 3), .bool (beatsB ⟨v, t, k == 3⟩ ⟨cv, ct, cp⟩)]) ∧ Below w.heap.size w w' := by
  go_enter Try.func8, Try.ntmps8
  go_wp2_with (go_at_call 23; refine (wins_held _ _ _ _ _ _ _ _ _ _ _ _ _ _ _ _).mono ?_; rintro e w' ⟨rfl, hb⟩)
  go_quiet (fail)
  go_wp2
  have hz : w.heap.size ≤ w'.heap.size := by have := hb.size; simp at this; omega
  refine bodyPost_ret (v := .tuple #[.string v, .int .i64 t, .bool (k == 3), .bool (beatsB ⟨v, t, k == 3⟩ ⟨cv, ct, cp⟩)]) (by simp [results, Try.results8, go_sem]) rfl ⟨rfl, ?_⟩
  exact below_drewN ((((Below.refl _ _).alloc (Nat.le_refl _) _).trans (hb.mono (by simp))).alloc hz _) _

set_option maxHeartbeats 400000 in
theorem step_new (s1 s2 s3 s4 s6 s7 s8 s9 s11 : Value) (k : Int) (v cv : ByteArray) (t ct : Int) (cp : Bool) (w : World) :
    Calls Try.prog 22 #[.agg #[.int .u8 k, s1, s2, s3, s4, .string v, s6, s7, s8, s9, .int .i64 t, s11], .string cv, .int .i64 ct, .bool cp, .bool false] w
      fun e w' => e = .returned (.tuple #[.string v, .int .i64 t, .bool (k == 3), .bool true]) ∧ Below w.heap.size w w' := by
  go_enter Try.func22, Try.ntmps22
  go_wp2_with (go_at_call 8; refine (zzwins_new _ _ _ _ _ _ _ _ _ _ _ _ _ _ _ _).mono ?_; rintro e w' ⟨rfl, hb⟩)
  refine bodyPost_ret (v := .tuple #[.string v, .int .i64 t, .bool (k == 3), .bool true]) (by simp [results, Try.results22, go_sem]) rfl ⟨rfl, ?_⟩
  exact (((Below.refl _ _).alloc (Nat.le_refl _) _).trans (hb.mono (by simp)))

set_option maxHeartbeats 400000 in
theorem step_held (s1 s2 s3 s4 s6 s7 s8 s9 s11 : Value) (k : Int) (v cv : ByteArray) (t ct : Int) (cp : Bool) (w : World) :
    Calls Try.prog 22 #[.agg #[.int .u8 k, s1, s2, s3, s4, .string v, s6, s7, s8, s9, .int .i64 t, s11], .string cv, .int .i64 ct, .bool cp, .bool true] w
      fun e w' => e = .returned (.tuple #[.string (best ⟨v, t, k == 3⟩ ⟨cv, ct, cp⟩).v, .int .i64 (best ⟨v, t, k == 3⟩ ⟨cv, ct, cp⟩).t, .bool (best ⟨v, t, k == 3⟩ ⟨cv, ct, cp⟩).p, .bool true]) ∧ Below w.heap.size w w' := by
  cases hB : beatsB ⟨v, t, k == 3⟩ ⟨cv, ct, cp⟩
  · have hbest : best ⟨v, t, k == 3⟩ ⟨cv, ct, cp⟩ = ⟨cv, ct, cp⟩ := by simp [best, hB]
    rw [hbest]
    clear hbest
    go_enter Try.func22, Try.ntmps22
    go_wp2_with (go_at_call 8; refine (zzwins_held _ _ _ _ _ _ _ _ _ _ _ _ _ _ _ _).mono ?_; rintro e w' ⟨rfl, hb⟩)
    refine bodyPost_ret (v := .tuple #[.string cv, .int .i64 ct, .bool cp, .bool true]) (by simp [results, Try.results22, go_sem]) rfl ⟨rfl, ?_⟩
    exact (((Below.refl _ _).alloc (Nat.le_refl _) _).trans (hb.mono (by simp)))
  · have hbest : best ⟨v, t, k == 3⟩ ⟨cv, ct, cp⟩ = ⟨v, t, k == 3⟩ := by simp [best, hB]
    rw [hbest]
    clear hbest
    go_enter Try.func22, Try.ntmps22
    go_wp2_with (go_at_call 8; refine (zzwins_held _ _ _ _ _ _ _ _ _ _ _ _ _ _ _ _).mono ?_; rintro e w' ⟨rfl, hb⟩)
    refine bodyPost_ret (v := .tuple #[.string v, .int .i64 t, .bool (k == 3), .bool true]) (by simp [results, Try.results22, go_sem]) rfl ⟨rfl, ?_⟩
    exact (((Below.refl _ _).alloc (Nat.le_refl _) _).trans (hb.mono (by simp)))
end Go.Proofs.Qxb6616132a
