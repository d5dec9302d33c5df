/-
  THE WALKS of foldB1 and sameFoldB1.
-/
import Derived.Test.Qxb6616132aFoldStep
namespace Go.Proofs.Qxb6616132a
open Go.RowKit
abbrev emS : Value := .string ⟨#[]⟩
abbrev opV (k : Int) (v : ByteArray) (t : Int) : Value := .agg #[.int .u8 k, emS, emS, emS, emS, .string v, emS, emS, emS, emS, .int .i64 t, .bool false]
set_option maxHeartbeats 1000000 in
theorem fold_any (k1 k2 k3 : Int) (v1 v2 v3 : ByteArray) (t1 t2 t3 : Int) (w : World) :
    Calls Try.prog 7 #[opV k1 v1 t1, opV k2 v2 t2, opV k3 v3 t3] w
      fun e w' => e = .returned (.tuple #[.string (fold3 ⟨v1, t1, k1 == 3⟩ ⟨v2, t2, k2 == 3⟩ ⟨v3, t3, k3 == 3⟩).v, .int .i64 (fold3 ⟨v1, t1, k1 == 3⟩ ⟨v2, t2, k2 == 3⟩ ⟨v3, t3, k3 == 3⟩).t, .bool (fold3 ⟨v1, t1, k1 == 3⟩ ⟨v2, t2, k2 == 3⟩ ⟨v3, t3, k3 == 3⟩).p, .bool true]) ∧ Below w.heap.size w w' := by
  simp only [opV, emS, fold3]
  go_enter Try.func7, Try.ntmps7
  go_wp2_with fail
  refine (step_new _ _ _ _ _ _ _ _ _ _ _ _ _ _ _ _).mono ?_
  rintro e w1 ⟨rfl, hb1⟩
  obtain ⟨hc1, hf1⟩ := bcell hb1
  have hz1 : w.heap.size + 1 < w1.heap.size := by have := hb1.size; simp at this; omega
  have hy1 : w.heap.size + 1 + 1 < w1.heap.size := by have := hb1.size; simp at this; omega
  go_wp2_with fail
  refine (step_held _ _ _ _ _ _ _ _ _ _ _ _ _ _ _ _).mono ?_
  rintro e w2 ⟨rfl, hb2⟩
  obtain ⟨hc2, hf2⟩ := bcell hb2
  have hy2 : w.heap.size + 1 + 1 < w2.heap.size := by have := hb2.size; omega
  go_wp2_with fail
  refine (step_held _ _ _ _ _ _ _ _ _ _ _ _ _ _ _ _).mono ?_
  rintro e w3 ⟨rfl, hb3⟩
  go_wp2_with fail
  refine bodyPost_ret (v := .tuple #[.string (best ⟨v3, t3, k3 == 3⟩ (best ⟨v2, t2, k2 == 3⟩ ⟨v1, t1, k1 == 3⟩)).v, .int .i64 (best ⟨v3, t3, k3 == 3⟩ (best ⟨v2, t2, k2 == 3⟩ ⟨v1, t1, k1 == 3⟩)).t, .bool (best ⟨v3, t3, k3 == 3⟩ (best ⟨v2, t2, k2 == 3⟩ ⟨v1, t1, k1 == 3⟩)).p, .bool true]) (by simp [results, Try.results7, go_sem]) rfl ⟨rfl, ?_⟩
  have h0 : Below w.heap.size w w1 := ((((Below.refl _ _).alloc (Nat.le_refl _) _).alloc (by simp) _).alloc (by simp; omega) _).trans (hb1.mono (by simp; omega))
  exact (h0.trans (hb2.mono (by omega))).trans (hb3.mono (by omega))

set_option maxHeartbeats 1000000 in
theorem same_any (k1 k2 k3 : Int) (v1 v2 v3 : ByteArray) (t1 t2 t3 : Int) (m : Wn) (hm : fold3 ⟨v1, t1, k1 == 3⟩ ⟨v2, t2, k2 == 3⟩ ⟨v3, t3, k3 == 3⟩ = m) (w : World) :
    Calls Try.prog 9 #[opV k1 v1 t1, opV k2 v2 t2, opV k3 v3 t3, .string m.v, .int .i64 m.t, .bool m.p] w
      fun e w' => e = .returned (.bool true) ∧ Below w.heap.size w w' := by
  simp only [opV, emS]
  have HM : Hid (fold3 ⟨v1, t1, k1 == 3⟩ ⟨v2, t2, k2 == 3⟩ ⟨v3, t3, k3 == 3⟩ = m) := hm
  clear hm
  go_enter Try.func9, Try.ntmps9
  go_wp2_with fail
  refine (fold_any _ _ _ _ _ _ _ _ _ _).mono ?_
  rintro e w1 ⟨rfl, hb1⟩
  rw [HM.out]
  go_wp2
  go_ret
  exact ⟨rfl, ((((Below.refl _ _).alloc (Nat.le_refl _) _).alloc (by simp) _).alloc (by simp; omega) _).trans (hb1.mono (by simp; omega))⟩
end Go.Proofs.Qxb6616132a
