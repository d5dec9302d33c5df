/-
  FnGrowOccupies..: the law's walk.
-/
import Derived.Test.Qxb6616132aOccPartR
import Derived.OpenShut
import Derived.ProofKit
namespace Go.Proofs.Qxb6616132a
open Go.RowKit Go.ChangeShapes Go.WideShapes Go.ChangeAt

/-- WHAT THE WALK IS TOLD OF A SLICE OF INTEGERS THAT CAME IN. -/
def IsRow (k : IntKind) (w : World) (a : Option Addr) (len cap : Nat) (zs : List Int) : Prop :=
  (a = none ∧ len = 0 ∧ cap = 0 ∧ zs = []) ∨
  ∃ x, a = some x ∧ len ≤ cap ∧ cap ≤ maxLen ∧ zs.length = cap ∧ (∀ i, i < zs.length → w.cell? (x.add i) = some (.int k (zs.getD i 0))) ∧ ∀ n ∈ zs, (Lit.int k n).wf = true

theorem wf_u64 (n : Int) (h : (Lit.int .u64 n).wf = true) : 0 ≤ n ∧ n < 18446744073709551616 := by
  have := bounds_u64 h
  omega

theorem row_view {w : World} {a : Option Addr} {len cap : Nat} {zs : List Int} (h : IsRow .u64 w a len cap zs) : ∃ T : List Int, T.length = len ∧ SlU w a T ∧ FitU T ∧ len ≤ maxLen := by
  rcases h with ⟨rfl, rfl, rfl, rfl⟩ | ⟨x, rfl, hl, hm, hz, hc, hw⟩
  · exact ⟨[], rfl, fun i hi => absurd hi (by simp), fun i => by simp, Nat.zero_le _⟩
  · refine ⟨zs.take len, by rw [List.length_take]; omega, ?_, ?_, by omega⟩
    · intro i hi
      rw [List.length_take] at hi
      obtain ⟨b, off, spot⟩ := x
      have h0 := hc i (by omega)
      have hs : spot = none := by simpa [Addr.add] using World.cell?_spot (hc 0 (by omega))
      subst hs
      have e : (⟨b, off, none⟩ : Addr).add i = ⟨b, off + i, none⟩ := add_plain b off i
      rw [e] at h0
      refine ⟨b, off, rfl, World.block_lt_of_cell? _ _ h0, ?_⟩
      rw [h0]
      simp [List.getD_eq_getElem?_getD, show i < len by omega]
    · refine fit_mem.2 fun z hz' => wf_u64 z (hw z (List.mem_of_mem_take hz'))

theorem row_of_sl {w : World} {a : Option Addr} {T : List Int} (h : SlU w a T) (h0 : 0 < T.length) : ∃ b off, a = some ⟨b, off, none⟩ ∧ b < w.heap.size ∧ RowU w b off T := by
  obtain ⟨b, off, rfl, hb, _⟩ := h 0 h0
  refine ⟨b, off, rfl, hb, fun i hi => ?_⟩
  obtain ⟨b', off', e, _, hc⟩ := h i hi
  simp only [Option.some.injEq, Addr.mk.injEq, and_true] at e
  obtain ⟨rfl, rfl⟩ := e
  exact hc

set_option maxRecDepth 100000 in
set_option maxHeartbeats 4000000 in
theorem occ_main (b off c0 c1 : Nat) (a1 : Option Addr) (Z T : List Int) (w : World) (hs : Z.length + T.length ≤ 1048576) (h0 : Z.length ≤ 65536) (h1 : T.length ≤ 65536) (h8 : 8 * Z.length + 8 * T.length ≤ 1048576) (hn0 : 0 < Z.length)
    (hp : Z.length &&& (Z.length - 1) = 0) (hb : b < w.heap.size) (hR : RowU w b off Z) (hS : SlU w a1 T) (hZ : FitU Z) (hT : FitU T) (hk : knownB T.length Z = true) :
    Calls Try.prog 5 #[.slice (some ⟨b, off, none⟩) Z.length c0, .slice a1 T.length c1] w fun e w' => e = .returned (.bool true) ∧ Below w.heap.size w w' := by
  obtain ⟨q0, hq0⟩ := pow2_of_and _ hn0 hp
  have hqb : q0 ≤ 16 := by
    rcases Nat.lt_or_ge 16 q0 with h | h
    · have := Nat.pow_le_pow_right (show 0 < 2 by decide) h
      rw [← hq0] at this
      have e : 2 ^ (Nat.succ 16) = 131072 := by decide
      omega
    · exact h
  have HQ : Hid (2 * Z.length = 2 ^ (q0 + 1) ∧ q0 + 1 ≤ 62) := ⟨by rw [Nat.pow_succ, ← hq0]; omega, by omega⟩
  have hbit : bits .and .i64 (Z.length : Int) ((Z.length : Int) - 1) = 0 := by
    have := i64_and_nat Z.length (Z.length - 1) (by omega) (by omega)
    rw [show ((Z.length - 1 : Nat) : Int) = (Z.length : Int) - 1 by omega, hp] at this
    exact this
  have hzb : ((Z.length : Int) == 0) = false := beq_eq_false_iff_ne.2 (by omega)
  have HK : Hid (knownB T.length Z = true) := hk
  clear hp hq0 hk hqb
  go_enter Try.func5, Try.ntmps5
  go_wp2_with (go_at_call 20; refine (bytesG_yes _ _ _ _ _ _ _ hs).mono ?_; rintro e w' ⟨rfl, rfl⟩)
  refine (known_some b off Z c0 T.length (by omega) (by omega) hZ w hR).mono ?_
  rintro e w' ⟨rfl, hw'⟩
  subst hw'
  rw [HK.out]
  go_wp2_with fail
  refine (clone_some b off Z c0 (by omega) _ hb hR).mono ?_
  rintro e W1 ⟨rfl, hW1⟩
  have B1 : Hid (Below w.heap.size w W1) := by rw [hW1]; exact (Below.refl _ _).alloc (Nat.le_refl _) _
  have N1 : Hid (RowU W1 w.heap.size 0 Z) := by rw [hW1]; exact RowU.new w _
  have S1 : Hid (w.heap.size < W1.heap.size) := by rw [hW1]; exact (by simp : w.heap.size < (w.alloc (.cells (cellsU Z) 39)).heap.size)
  clear hW1
  go_wp2_with fail
  refine (clone_any a1 T c1 (by omega) W1 (hS.below B1.out)).mono ?_
  rintro e W2 ⟨ta, rfl, hs2, hb2⟩
  have HS2 : Hid (SlU W2 ta T) := hs2
  have B2 : Hid (Below W1.heap.size W1 W2) := hb2
  have N2 : Hid (RowU W2 w.heap.size 0 Z) := N1.out.below hb2 S1.out
  have S2 : Hid (w.heap.size < W2.heap.size) := Nat.lt_of_lt_of_le S1.out hb2.size
  clear hs2 hb2
  go_upto_region 14 with fail
  go_cut [6] from 16 to 130 (fun s wx => s = .int .i64 (cntU Z) ∧ Hid (Below W2.heap.size W2 wx))
  case first =>
    go_wp2_with fail
    refine (clone_some w.heap.size 0 Z Z.length (by omega) W2 S2.out N2.out).mono ?_
    rintro e W3 ⟨rfl, hW3⟩
    have B3 : Hid (Below W2.heap.size W2 W3) := by rw [hW3]; exact (Below.refl _ _).alloc (Nat.le_refl _) _
    have N3 : Hid (RowU W3 W2.heap.size 0 Z) := by rw [hW3]; exact RowU.new W2 _
    clear hW3
    go_wp2_with fail
    refine (count_some W2.heap.size 0 Z Z.length (by omega) W3 N3.out).mono ?_
    rintro e w' ⟨rfl, hw'⟩
    subst hw'
    go_wp2_with fail
    go_meet
    exact ⟨rfl, B3⟩
  case rest =>
  obtain ⟨rfl, B3⟩ := hcut
  have BB : Below w.heap.size w wc := (B1.out.trans (B2.out.mono B1.out.size)).trans (B3.out.mono (Nat.le_of_lt S2.out))
  go_step
  exact occPartR w wc w.heap.size Z.length (q0 + 1) (cntU Z) T.length ta Z T hn0 (by omega) (by omega) rfl HQ HK ⟨hZ, hT⟩ rfl BB ⟨N2.out.below B3.out S2.out, Nat.lt_of_lt_of_le S2.out B3.out.size, Nat.le_refl _⟩ (HS2.out.below B3.out) _ _ _ _ _ _ _ _ _ _ _ _ _ _ _ _ _ _ _ _ _ _ _ _ _ _ _ _ _ _ _ _ _ _ _ _ _ _ _ _ _ _ _ _ _ _ _ _ _ _ _ _ _ _ _ _ _ _ _ _ _ _ _ _ _ _ _ _ _ _ _ _ _ _ _ _ _ _ _ _ _ _ _ _ _ _ _ _ _ _ _ _ _ _ _ _ _ _ _ _ _ _ _ _ _ _ _ _ _ _ _ _ _ _ _ _ _ _ _ _ _ _ _ _ _ _ _

set_option maxRecDepth 100000 in
set_option maxHeartbeats 4000000 in
theorem occ_early (a0 a1 : Option Addr) (n m c0 c1 : Nat) (w : World) (h0 : n ≤ maxLen) (h1 : m ≤ maxLen) (h : 1048576 < n + m ∨ 65536 < n ∨ 65536 < m ∨ 1048576 < 8 * n + 8 * m ∨ n = 0 ∨ ¬ n &&& (n - 1) = 0) :
    Calls Try.prog 5 #[.slice a0 n c0, .slice a1 m c1] w fun e w' => e = .returned (.bool true) ∧ Below w.heap.size w w' := by
  by_cases hs : 1048576 < n + m
  · go_enter Try.func5, Try.ntmps5
    go_wp2_with (go_at_call 20; refine (bytesG_no _ _ _ _ _ _ _ h0 h1 hs).mono ?_; rintro e w' ⟨rfl, rfl⟩)
    go_ret
    exact ⟨rfl, Below.refl _ _⟩
  have hs' : n + m ≤ 1048576 := by omega
  clear hs h0 h1
  by_cases ha : 65536 < n ∨ 65536 < m ∨ 1048576 < 8 * n + 8 * m
  · clear h
    go_enter Try.func5, Try.ntmps5
    by_cases hn : 65536 < n
    · go_wp2_with (go_at_call 20; refine (bytesG_yes _ _ _ _ _ _ _ hs').mono ?_; rintro e w' ⟨rfl, rfl⟩)
      go_ret
      exact ⟨rfl, Below.refl _ _⟩
    · by_cases hm : 65536 < m
      · go_wp2_with (go_at_call 20; refine (bytesG_yes _ _ _ _ _ _ _ hs').mono ?_; rintro e w' ⟨rfl, rfl⟩)
        go_ret
        exact ⟨rfl, Below.refl _ _⟩
      · exfalso; omega
  have hn : n ≤ 65536 := by omega
  have hm : m ≤ 65536 := by omega
  have h8 : 8 * n + 8 * m ≤ 1048576 := by omega
  by_cases hz : n = 0
  · subst hz
    clear ha h
    go_enter Try.func5, Try.ntmps5
    go_wp2_with (go_at_call 20; refine (bytesG_yes _ _ _ _ _ _ _ hs').mono ?_; rintro e w' ⟨rfl, rfl⟩)
    go_ret
    exact ⟨rfl, Below.refl _ _⟩
  · have hp : ¬ n &&& (n - 1) = 0 := by omega
    have hbit := i64_and_nat n (n - 1) (by omega) (by omega)
    rw [show ((n - 1 : Nat) : Int) = (n : Int) - 1 by omega] at hbit
    obtain ⟨y, hy⟩ : ∃ y, n &&& (n - 1) = y := ⟨_, rfl⟩
    rw [hy] at hbit hp
    have hzb : ((n : Int) == 0) = false := beq_eq_false_iff_ne.2 (by omega)
    have hyb : ((y : Int) != 0) = true := by rw [bne_iff_ne]; omega
    clear ha h hy hp
    go_enter Try.func5, Try.ntmps5
    go_wp2_with (go_at_call 20; refine (bytesG_yes _ _ _ _ _ _ _ hs').mono ?_; rintro e w' ⟨rfl, rfl⟩)
    go_ret
    exact ⟨rfl, Below.refl _ _⟩

set_option maxRecDepth 100000 in
set_option maxHeartbeats 4000000 in
theorem occ_unknown (b off c0 c1 : Nat) (a1 : Option Addr) (Z : List Int) (m : Nat) (w : World) (hs : Z.length + m ≤ 1048576) (h0 : Z.length ≤ 65536) (h1 : m ≤ 65536) (h8 : 8 * Z.length + 8 * m ≤ 1048576) (hn0 : 0 < Z.length)
    (hp : Z.length &&& (Z.length - 1) = 0) (hR : RowU w b off Z) (hZ : FitU Z) (hk : knownB m Z = false) :
    Calls Try.prog 5 #[.slice (some ⟨b, off, none⟩) Z.length c0, .slice a1 m c1] w fun e w' => e = .returned (.bool true) ∧ Below w.heap.size w w' := by
  have hbit : bits .and .i64 (Z.length : Int) ((Z.length : Int) - 1) = 0 := by
    have := i64_and_nat Z.length (Z.length - 1) (by omega) (by omega)
    rw [show ((Z.length - 1 : Nat) : Int) = (Z.length : Int) - 1 by omega, hp] at this
    exact this
  have hzb : ((Z.length : Int) == 0) = false := beq_eq_false_iff_ne.2 (by omega)
  have HK : Hid (knownB m Z = false) := hk
  clear hp hk
  go_enter Try.func5, Try.ntmps5
  go_wp2_with (go_at_call 20; refine (bytesG_yes _ _ _ _ _ _ _ hs).mono ?_; rintro e w' ⟨rfl, rfl⟩)
  refine (known_some b off Z c0 m (by omega) (by omega) hZ w hR).mono ?_
  rintro e w' ⟨rfl, hw'⟩
  subst hw'
  rw [HK.out]
  go_wp2
  go_ret
  exact ⟨rfl, Below.refl _ _⟩

theorem occ_walk (a0 : Option Addr) (len0 cap0 : Nat) (z0 : List Int) (a1 : Option Addr) (len1 cap1 : Nat) (z1 : List Int) (w : World) (w0 : IsRow .u64 w a0 len0 cap0 z0) (w1 : IsRow .u64 w a1 len1 cap1 z1) :
    Calls Try.prog 5 #[.slice a0 len0 cap0, .slice a1 len1 cap1] w fun e w' => e = .returned (.bool true) ∧ Below w.heap.size w w' := by
  obtain ⟨Z, rfl, hS0, hF0, hl0⟩ := row_view w0
  obtain ⟨T, rfl, hS1, hF1, hl1⟩ := row_view w1
  by_cases h : 1048576 < Z.length + T.length ∨ 65536 < Z.length ∨ 65536 < T.length ∨ 1048576 < 8 * Z.length + 8 * T.length ∨ Z.length = 0 ∨ ¬ Z.length &&& (Z.length - 1) = 0
  · exact occ_early a0 a1 _ _ cap0 cap1 w hl0 hl1 h
  · have hp : Z.length &&& (Z.length - 1) = 0 := by
      rcases Nat.decEq (Z.length &&& (Z.length - 1)) 0 with e | e
      · exact absurd (.inr (.inr (.inr (.inr (.inr e))))) h
      · exact e
    obtain ⟨b, off, rfl, hb, hR⟩ := row_of_sl hS0 (by omega)
    cases hk : knownB T.length Z with
    | false => exact occ_unknown b off cap0 cap1 a1 Z T.length w (by omega) (by omega) (by omega) (by omega) (by omega) hp hR hF0 hk
    | true => exact occ_main b off cap0 cap1 a1 Z T w (by omega) (by omega) (by omega) (by omega) (by omega) hp hb hR hS1 hF0 hF1 hk
end Go.Proofs.Qxb6616132a
