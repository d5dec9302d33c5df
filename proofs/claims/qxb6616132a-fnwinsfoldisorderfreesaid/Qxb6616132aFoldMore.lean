/-
  The byte bound's walk, and two contracts made fit for the law.
-/
import Derived.Test.Qxb6616132aFoldThree
namespace Go.Proofs.Qxb6616132a
open Go.RowKit

set_option maxHeartbeats 400000 in
theorem bytesW_no (a0 : Int) (a1 : ByteArray) (a2 : Int) (a3 : Int) (a4 : ByteArray) (a5 : Int) (a6 : Int) (a7 : ByteArray) (a8 : Int) (w : World)
    (w1 : a1.size ≤ maxLen) (w4 : a4.size ≤ maxLen) (w7 : a7.size ≤ maxLen) (h : 1048576 < a1.size + a4.size + a7.size) :
    Calls Try.prog 6 #[.int .u8 a0, .string a1, .int .i64 a2, .int .u8 a3, .string a4, .int .i64 a5, .int .u8 a6, .string a7, .int .i64 a8] w fun e w' => e = .returned (.bool false) ∧ w = w' := by
  unfold maxLen at w1 w4 w7
  go_enter Try.func6, Try.ntmps6
  go_wp2
  all_goals first
    | (go_ret; exact ⟨rfl, rfl⟩)
    | (exfalso; omega)
set_option maxHeartbeats 400000 in
theorem bytesW_yes (a0 : Int) (a1 : ByteArray) (a2 : Int) (a3 : Int) (a4 : ByteArray) (a5 : Int) (a6 : Int) (a7 : ByteArray) (a8 : Int) (w : World)
    (h : a1.size + a4.size + a7.size ≤ 1048576) :
    Calls Try.prog 6 #[.int .u8 a0, .string a1, .int .i64 a2, .int .u8 a3, .string a4, .int .i64 a5, .int .u8 a6, .string a7, .int .i64 a8] w fun e w' => e = .returned (.bool true) ∧ w = w' := by
  go_enter Try.func6, Try.ntmps6
  go_wp2
  go_ret
  exact ⟨rfl, rfl⟩

theorem zzwins_no (s1 s2 s3 s4 s6 s7 s8 s9 s11 : Value) (k : Int) (v cv : ByteArray) (t ct : Int) (cp : Bool) (w : World) (h : beatsB ⟨v, t, k == 3⟩ ⟨cv, ct, cp⟩ = false) :
    Calls Try.prog 8 #[.agg #[.int .u8 k, s1, s2, s3, s4, .string v, s6, s7, s8, s9, .int .i64 t, s11], .string cv, .int .i64 ct, .bool cp, .bool true] w
      fun e w' => e = .returned (.tuple #[.string v, .int .i64 t, .bool (k == 3), .bool false]) ∧ Below w.heap.size w w' := by
  have := zzwins_held s1 s2 s3 s4 s6 s7 s8 s9 s11 k v cv t ct cp w
  rw [h] at this
  exact this

theorem same_of (k1 k2 k3 : Int) (v1 v2 v3 : ByteArray) (t1 t2 t3 : Int) (mv : ByteArray) (mt : Int) (mp : Bool) (hm : fold3 ⟨v1, t1, k1 == 3⟩ ⟨v2, t2, k2 == 3⟩ ⟨v3, t3, k3 == 3⟩ = ⟨mv, mt, mp⟩) (w : World) :
    Calls Try.prog 9 #[opV k1 v1 t1, opV k2 v2 t2, opV k3 v3 t3, .string mv, .int .i64 mt, .bool mp] w
      fun e w' => e = .returned (.bool true) ∧ Below w.heap.size w w' := same_any k1 k2 k3 v1 v2 v3 t1 t2 t3 ⟨mv, mt, mp⟩ hm w

end Go.Proofs.Qxb6616132a
