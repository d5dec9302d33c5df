/-
  FnGrowDoubles..: the law's walk.
-/
import Derived.Test.Qxb6616132aDblProbe
import Derived.Test.Qxb6616132aOccWalk
namespace Go.Proofs.Qxb6616132a
open Go.RowKit Go.ChangeShapes Go.WideShapes Go.ChangeAt

theorem nonzero_n (a : Option Addr) (zs : List Int) (n cap : Nat) (hz : zs.length = n) (hn : n ≤ 1073741824) (w : World) (hs : SlU w a zs) :
    Calls Try.prog 18 #[.slice a n cap] w fun e w' => e = .returned (.slice (some ⟨w.heap.size, 0, none⟩) (nzU zs).length n) ∧ OwnU w' w.heap.size (nzU zs).length n (nzU zs) ∧ Below w.heap.size w w' := by
  subst hz
  exact nonzero_any a zs cap hn w hs

theorem mem_nz {z : Int} {l : List Int} : z ∈ nzU l ↔ z ∈ l ∧ z ≠ 0 := by
  unfold nzU
  rw [List.mem_filter]
  simp
theorem known_perm {m : Nat} {G Z : List Int} (hp : (nzU G).Perm (nzU Z)) (h : knownB m Z = true) : knownB m G = true := by
  unfold knownB at *
  rw [List.all_eq_true] at *
  intro z hz
  by_cases h0 : z = 0
  · simp [okB, h0]
  · exact h z (mem_nz.1 (hp.mem_iff.1 (mem_nz.2 ⟨hz, h0⟩))).1
theorem fit_perm {G Z : List Int} (hp : (nzU G).Perm (nzU Z)) (h : FitU Z) : FitU G := by
  refine fit_mem.2 fun z hz => ?_
  by_cases h0 : z = 0
  · subst h0; exact ⟨by decide, by decide⟩
  · exact fit_mem.1 h z (mem_nz.1 (hp.mem_iff.1 (mem_nz.2 ⟨hz, h0⟩))).1

theorem bytesD_no (a0 a1 : Option Addr) (l0 c0 l1 c1 : Nat) (w : World) (h0 : l0 ≤ maxLen) (h1 : l1 ≤ maxLen) (h : 1048576 < l0 + l1) :
    Calls Try.prog 10 #[.slice a0 l0 c0, .slice a1 l1 c1] w fun e w' => e = .returned (.bool false) ∧ w = w' := by
  unfold maxLen at h0 h1
  go_enter Try.func10, Try.ntmps10
  go_wp2
  all_goals first
    | (go_ret; exact ⟨rfl, rfl⟩)
    | (exfalso; omega)
theorem bytesD_yes (a0 a1 : Option Addr) (l0 c0 l1 c1 : Nat) (w : World) (h : l0 + l1 ≤ 1048576) :
    Calls Try.prog 10 #[.slice a0 l0 c0, .slice a1 l1 c1] w fun e w' => e = .returned (.bool true) ∧ w = w' := by
  go_enter Try.func10, Try.ntmps10
  go_wp2
  go_ret
  exact ⟨rfl, rfl⟩

set_option maxRecDepth 100000 in
set_option maxHeartbeats 4000000 in
theorem dbl_main (b off c0 c1 : Nat) (a1 : Option Addr) (Z T : List Int) (w : World) (hs : Z.length + T.length ≤ 1048576) (h0 : Z.length ≤ 65536) (h1 : T.length ≤ 65536) (h8 : 8 * Z.length + 8 * T.length ≤ 1048576) (hn0 : 0 < Z.length)
    (hp : Z.length &&& (Z.length - 1) = 0) (hb : b < w.heap.size) (hR : RowU w b off Z) (hS : SlU w a1 T) (hZ : FitU Z) (hT : FitU T) (hk : knownB T.length Z = true) :
    Calls Try.prog 4 #[.slice (some ⟨b, off, none⟩) Z.length c0, .slice a1 T.length c1] w fun e w' => e = .returned (.bool true) ∧ Below w.heap.size w w' := by
  obtain ⟨q0, hq0⟩ := pow2_of_and _ hn0 hp
  have hqb : q0 ≤ 16 := by
    rcases Nat.lt_or_ge 16 q0 with h | h
    · have := Nat.pow_le_pow_right (show 0 < 2 by decide) h
      rw [← hq0] at this
      have e : 2 ^ (Nat.succ 16) = 131072 := by decide
      omega
    · exact h
  have HQ : Hid (2 * Z.length = 2 ^ (q0 + 1) ∧ q0 + 1 ≤ 62) := ⟨by rw [Nat.pow_succ, ← hq0]; omega, by omega⟩
  have hbit : bits .and .i64 (Z.length : Int) ((Z.length : Int) - 1) = 0 := by
    have := i64_and_nat Z.length (Z.length - 1) (by omega) (by omega)
    rw [show ((Z.length - 1 : Nat) : Int) = (Z.length : Int) - 1 by omega, hp] at this
    exact this
  have hzb : ((Z.length : Int) == 0) = false := beq_eq_false_iff_ne.2 (by omega)
  have HK : Hid (knownB T.length Z = true) := hk
  -- the plain law's facts on the new table
  obtain ⟨G, hG⟩ : ∃ G, growU (homeU T (2 * Z.length)) (2 * Z.length) Z = G := ⟨_, rfl⟩
  have hGp : (nzU G).Perm (nzU Z) := hG ▸ nz_growU _ _ _ (by omega)
  have hGl : G.length = 2 * Z.length := hG ▸ growU_length _ _ _
  have hGf : Findable (homeU T (2 * Z.length)) G := hG ▸ find_growU _ _ _ (by omega)
  have hGc : cntU G = cntU Z := hG ▸ cnt_growU _ _ _ (by omega)
  have HG : Hid (growU (homeU T (2 * Z.length)) (2 * Z.length) Z = G) := hG
  have HP : Hid ((nzU G).Perm (nzU Z)) := hGp
  have HL : Hid (G.length = 2 * Z.length) := hGl
  have HI : Hid (Findable (homeU T (2 * Z.length)) G) := hGf
  have HE : Hid (FreeO (occ G)) := free_of_cnt G (by have := cnt_le Z; omega)
  have HGK : Hid (knownB T.length G = true) := known_perm hGp hk
  have HGF : Hid (FitU G ∧ FitU T) := ⟨fit_perm hGp hZ, hT⟩
  have HNL : Hid ((nzU G).length = (nzU Z).length) := hGp.length_eq
  have hnz := nz_le Z
  clear hp hq0 hk hqb hG hGp hGl hGf hGc
  go_enter Try.func4, Try.ntmps4
  go_wp2_with (go_at_call 10; refine (bytesD_yes _ _ _ _ _ _ _ hs).mono ?_; rintro e w' ⟨rfl, rfl⟩)
  refine (known_some b off Z c0 T.length (by omega) (by omega) hZ w hR).mono ?_
  rintro e w' ⟨rfl, hw'⟩
  subst hw'
  rw [HK.out]
  go_wp2_with fail
  refine (clone_some b off Z c0 (by omega) _ hb hR).mono ?_
  rintro e W1 ⟨rfl, hW1⟩
  have B1 : Hid (Below w.heap.size w W1) := by rw [hW1]; exact (Below.refl _ _).alloc (Nat.le_refl _) _
  have N1 : Hid (RowU W1 w.heap.size 0 Z) := by rw [hW1]; exact RowU.new w _
  have S1 : Hid (w.heap.size < W1.heap.size) := by rw [hW1]; exact (by simp : w.heap.size < (w.alloc (.cells (cellsU Z) 39)).heap.size)
  clear hW1
  go_wp2_with fail
  refine (clone_any a1 T c1 (by omega) W1 (hS.below B1.out)).mono ?_
  rintro e W2 ⟨ta, rfl, hs2, hb2⟩
  have HS2 : Hid (SlU W2 ta T) := hs2
  have B2 : Hid (Below w.heap.size w W2) := B1.out.trans (hb2.mono B1.out.size)
  have N2 : Hid (RowU W2 w.heap.size 0 Z) := N1.out.below hb2 S1.out
  have S2 : Hid (w.heap.size < W2.heap.size) := Nat.lt_of_lt_of_le S1.out hb2.size
  clear hs2 hb2 N1 S1 B1
  go_wp2_with fail
  refine (clone_some w.heap.size 0 Z Z.length (by omega) W2 S2.out N2.out).mono ?_
  rintro e W3 ⟨rfl, hW3⟩
  have b3 : Below W2.heap.size W2 W3 := by rw [hW3]; exact (Below.refl _ _).alloc (Nat.le_refl _) _
  have O3 : Hid (SlU W3 (some ⟨W2.heap.size, 0, none⟩) Z ∧ W2.heap.size < W3.heap.size) := by
    rw [hW3]; exact ⟨SlU.of_row (by simp) (RowU.new W2 _), by simp⟩
  have B3 : Hid (Below w.heap.size w W3) := B2.out.trans (b3.mono B2.out.size)
  have N3 : Hid (RowU W3 w.heap.size 0 Z) := N2.out.below b3 S2.out
  have S3 : Hid (w.heap.size < W3.heap.size) := Nat.lt_of_lt_of_le S2.out b3.size
  have HS3 : Hid (SlU W3 ta T) := HS2.out.below b3
  clear hW3 b3 N2 HS2 B2
  go_wp2_with fail
  refine (clone_any ta T T.length (by omega) W3 HS3.out).mono ?_
  rintro e W4 ⟨tt, rfl, hs4, hb4⟩
  have HS4 : Hid (SlU W4 tt T) := hs4
  have HS4' : Hid (SlU W4 ta T) := HS3.out.below hb4
  have B4 : Hid (Below w.heap.size w W4) := B3.out.trans (hb4.mono B3.out.size)
  have N4 : Hid (RowU W4 w.heap.size 0 Z) := N3.out.below hb4 S3.out
  have S4 : Hid (w.heap.size < W4.heap.size) := Nat.lt_of_lt_of_le S3.out hb4.size
  have O4 : Hid (SlU W4 (some ⟨W2.heap.size, 0, none⟩) Z ∧ W2.heap.size < W4.heap.size) := ⟨O3.out.1.below hb4, Nat.lt_of_lt_of_le O3.out.2 hb4.size⟩
  clear hs4 hb4 HS3 N3 S3 O3 B3
  go_wp2_with fail
  refine (newPending (some ⟨w.heap.size, 0, none⟩) Z.length Z.length ta T T.length (by omega) W4 HS4'.out).mono ?_
  rintro e W5 ⟨rfl, C1, hC1, hW5⟩
  have P1 : PendAt W5 (W4.heap.size + 1) W4.heap.size T (.slice (some ⟨w.heap.size, 0, none⟩) Z.length Z.length) := by rw [hW5]; exact pend_new W4 C1 T _ hC1
  have b5 : Below W4.heap.size W4 W5 := by rw [hW5]; exact ((Below.refl _ _).alloc (Nat.le_refl _) _).alloc (by simp) _
  have B5 : Hid (Below w.heap.size w W5) := B4.out.trans (b5.mono B4.out.size)
  have N5 : Hid (RowU W5 w.heap.size 0 Z) := N4.out.below b5 S4.out
  have HS5 : Hid (SlU W5 tt T) := HS4.out.below b5
  have O5 : Hid (SlU W5 (some ⟨W2.heap.size, 0, none⟩) Z) := O4.out.1.below b5
  have HT : Hid (∀ i, i < T.length → ∃ b off, tt = some ⟨b, off, none⟩ ∧ b < W4.heap.size ∧ W5.cell? ⟨b, off + i, none⟩ = some (.int .u64 (T.getD i 0))) := by
    intro i hi
    obtain ⟨b', o', e, hlt, hc⟩ := HS4.out i hi
    exact ⟨b', o', e, hlt, by rw [b5.cell (by exact hlt)]; exact hc⟩
  have S5 : Hid (W4.heap.size < W5.heap.size) := by rw [hW5]; exact (by simp; omega : W4.heap.size < ((W4.alloc (.cells C1 52)).alloc (.cells #[.pointer none, .slice none 0 0, .slice (some ⟨W4.heap.size, 0, none⟩) T.length T.length, .slice (some ⟨w.heap.size, 0, none⟩) Z.length Z.length, .int .i64 0, .int .i64 0] 56)).heap.size)
  clear hW5 hC1 C1 b5 N4 HS4 HS4' B4
  go_wp2_with fail
  refine (zzgrow_at P1 (q0 + 1) Z rfl HQ.out.1 HQ.out.2 hn0 (by omega) (by omega) (by have := S4.out; have := S5.out; omega) (by have := S4.out; omega) N5.out HK.out hZ hT).mono ?_
  rintro e W6 ⟨rfl, hW6⟩
  rw [HG.out] at hW6
  have N6 : Hid (RowU W6 W5.heap.size 0 G) := by rw [hW6]; exact grown_row _ _ _ _
  have Q6 : Hid (W6.cell? ⟨W4.heap.size + 1, 3, none⟩ = some (.slice (some ⟨W5.heap.size, 0, none⟩) (2 * Z.length) (2 * Z.length))) := by rw [hW6]; exact grown_p3 _ _ _ _ _ P1.lp P1.p3
  have S6 : Hid (W6.heap.size = W5.heap.size + 1) := by rw [hW6]; exact grown_size _ _ _ _
  have B6 : Hid (Below w.heap.size w W6) := B5.out.trans (by rw [hW6]; exact grown_below _ _ _ _ _ (by have := S4.out; omega) (by have := S4.out; have := S5.out; omega))
  have O6 : Hid (SlU W6 (some ⟨W2.heap.size, 0, none⟩) Z) := by
    intro i hi
    obtain ⟨b', o', e, hlt, hc⟩ := O5.out i hi
    simp only [Option.some.injEq, Addr.mk.injEq, and_true] at e
    obtain ⟨rfl, rfl⟩ := e
    refine ⟨_, _, rfl, by rw [S6.out]; omega, ?_⟩
    rw [hW6, grown_cell _ _ _ _ _ _ hlt (by have := O4.out.2; omega)]
    exact hc
  have HS6 : Hid (SlU W6 tt T) := by
    intro i hi
    obtain ⟨b', o', e, hlt, hc⟩ := HT.out i hi
    refine ⟨b', o', e, by have := S5.out; rw [S6.out]; omega, ?_⟩
    rw [hW6, grown_cell _ _ _ _ _ _ (by have := S5.out; omega) (by omega)]
    exact hc
  have G6 : Hid (SlU W6 (some ⟨W5.heap.size, 0, none⟩) G) := SlU.of_row (by rw [S6.out]; omega) N6.out
  clear hW6 P1 B5 N5 HS5 O5 HT N6
  go_wp2_with fail
  refine (pendIndex (W4.heap.size + 1) _ W6 Q6.out).mono ?_
  rintro e w' ⟨rfl, hw'⟩
  subst hw'
  go_wp2_with fail
  refine (nonzero_n _ Z Z.length Z.length rfl (by omega) W6 O6.out).mono ?_
  rintro e W7 ⟨rfl, ho7, hb7⟩
  have G7 : Hid (SlU W7 (some ⟨W5.heap.size, 0, none⟩) G) := G6.out.below hb7
  have HS7 : Hid (SlU W7 tt T) := HS6.out.below hb7
  have B7 : Hid (Below w.heap.size w W7) := B6.out.trans (hb7.mono B6.out.size)
  have O7 : Hid (SlU W7 (some ⟨W6.heap.size, 0, none⟩) (nzU Z)) := SlU.of_row ho7.lt (ho7.row rfl)
  clear ho7 hb7 G6 HS6 B6 O6
  go_wp2_with fail
  refine (sorted_all ((nzU Z).length + 1) (some ⟨W6.heap.size, 0, none⟩) (nzU Z) (nzU Z).length Z.length W7 rfl (Nat.lt_succ_self _) hnz (by omega) O7.out).mono ?_
  rintro e W8 ⟨ya, yc, rfl, hyc, Y, hyl, hyp, hyu, hys, hb8⟩
  have HY : Hid (Y.length = (nzU Z).length ∧ Y.Perm (nzU Z) ∧ UpU Y) := ⟨hyl, hyp, hyu⟩
  have G8 : Hid (SlU W8 (some ⟨W5.heap.size, 0, none⟩) G) := G7.out.below hb8
  have HS8 : Hid (SlU W8 tt T) := HS7.out.below hb8
  have B8 : Hid (Below w.heap.size w W8) := B7.out.trans (hb8.mono B7.out.size)
  have Y8 : Hid (SlU W8 ya Y) := hys
  clear hyl hyp hyu hys hb8 hyc G7 HS7 B7 O7
  go_wp2_with fail
  refine (nonzero_n _ G (2 * Z.length) (2 * Z.length) HL.out (by omega) W8 G8.out).mono ?_
  rintro e W9 ⟨rfl, ho9, hb9⟩
  have hgz : (nzU G).length ≤ 2 * Z.length := by have := nz_le G; rw [HL.out] at this; exact this
  have G9 : Hid (SlU W9 (some ⟨W5.heap.size, 0, none⟩) G) := G8.out.below hb9
  have HS9 : Hid (SlU W9 tt T) := HS8.out.below hb9
  have B9 : Hid (Below w.heap.size w W9) := B8.out.trans (hb9.mono B8.out.size)
  have Y9 : Hid (SlU W9 ya Y) := Y8.out.below hb9
  have O9 : Hid (SlU W9 (some ⟨W8.heap.size, 0, none⟩) (nzU G)) := SlU.of_row ho9.lt (ho9.row rfl)
  clear ho9 hb9 G8 HS8 B8 Y8
  go_wp2_with fail
  refine (sorted_all ((nzU G).length + 1) (some ⟨W8.heap.size, 0, none⟩) (nzU G) (nzU G).length (2 * Z.length) W9 rfl (Nat.lt_succ_self _) hgz (by omega) O9.out).mono ?_
  rintro e Wa ⟨xa, xc, rfl, hxc, X, hxl, hxp, hxu, hxs, hba⟩
  have eXY : X = Y := up_uniq X Y (nzU Z) hxu HY.out.2.2 (hxp.trans HP.out) HY.out.2.1
  subst eXY
  have Ga : Hid (RowU Wa W5.heap.size 0 G) := by
    have := G9.out.below hba
    intro i hi
    obtain ⟨b', o', e, _, hc⟩ := this i hi
    simp only [Option.some.injEq, Addr.mk.injEq, and_true] at e
    obtain ⟨rfl, rfl⟩ := e
    exact hc
  have HSa : Hid (SlU Wa tt T) := HS9.out.below hba
  have Ba : Hid (Below w.heap.size w Wa) := B9.out.trans (hba.mono B9.out.size)
  have Ya : Hid (SlU Wa ya X) := Y9.out.below hba
  have Xa : Hid (SlU Wa xa X) := hxs
  rw [HNL.out]
  clear hxl hxp hxu hxs hba hxc G9 HS9 B9 Y9 O9
  go_wp2_with fail
  refine (same_yes ya xa X (nzU Z).length yc xc (by omega) HY.out.1 Wa Ya.out Xa.out).mono ?_
  rintro e Wb ⟨rfl, hbb⟩
  have Gb : Hid (RowU Wb W5.heap.size 0 G) := by
    intro i hi
    have h5 := Ga.out i hi
    rw [hbb.cell (by exact World.block_lt_of_cell? _ _ h5)]
    exact h5
  have HSb : Hid (SlU Wb tt T) := HSa.out.below hbb
  have Bb : Hid (Below w.heap.size w Wb) := Ba.out.trans (hbb.mono Ba.out.size)
  clear hbb Ga HSa Ba Ya Xa
  go_wp2_with fail
  refine (probe_yes W5.heap.size (2 * Z.length) (q0 + 1) G T (2 * Z.length) T.length tt Wb (by omega) (by omega) (by omega) HL HQ Gb HSb HGF HGK HI HE).mono ?_
  rintro e w' ⟨rfl, hw'⟩
  subst hw'
  go_wp2_with fail
  go_ret
  exact ⟨rfl, Bb.out⟩

set_option maxRecDepth 100000 in
set_option maxHeartbeats 4000000 in
theorem dbl_early (a0 a1 : Option Addr) (n m c0 c1 : Nat) (w : World) (h0 : n ≤ maxLen) (h1 : m ≤ maxLen) (h : 1048576 < n + m ∨ 65536 < n ∨ 65536 < m ∨ 1048576 < 8 * n + 8 * m ∨ n = 0 ∨ ¬ n &&& (n - 1) = 0) :
    Calls Try.prog 4 #[.slice a0 n c0, .slice a1 m c1] w fun e w' => e = .returned (.bool true) ∧ Below w.heap.size w w' := by
  by_cases hs : 1048576 < n + m
  · go_enter Try.func4, Try.ntmps4
    go_wp2_with (go_at_call 10; refine (bytesD_no _ _ _ _ _ _ _ h0 h1 hs).mono ?_; rintro e w' ⟨rfl, rfl⟩)
    go_ret
    exact ⟨rfl, Below.refl _ _⟩
  have hs' : n + m ≤ 1048576 := by omega
  clear hs h0 h1
  by_cases ha : 65536 < n ∨ 65536 < m ∨ 1048576 < 8 * n + 8 * m
  · clear h
    go_enter Try.func4, Try.ntmps4
    by_cases hn : 65536 < n
    · go_wp2_with (go_at_call 10; refine (bytesD_yes _ _ _ _ _ _ _ hs').mono ?_; rintro e w' ⟨rfl, rfl⟩)
      go_ret
      exact ⟨rfl, Below.refl _ _⟩
    · by_cases hm : 65536 < m
      · go_wp2_with (go_at_call 10; refine (bytesD_yes _ _ _ _ _ _ _ hs').mono ?_; rintro e w' ⟨rfl, rfl⟩)
        go_ret
        exact ⟨rfl, Below.refl _ _⟩
      · exfalso; omega
  have hn : n ≤ 65536 := by omega
  have hm : m ≤ 65536 := by omega
  have h8 : 8 * n + 8 * m ≤ 1048576 := by omega
  by_cases hz : n = 0
  · subst hz
    clear ha h
    go_enter Try.func4, Try.ntmps4
    go_wp2_with (go_at_call 10; refine (bytesD_yes _ _ _ _ _ _ _ hs').mono ?_; rintro e w' ⟨rfl, rfl⟩)
    go_ret
    exact ⟨rfl, Below.refl _ _⟩
  · have hp : ¬ n &&& (n - 1) = 0 := by omega
    have hbit := i64_and_nat n (n - 1) (by omega) (by omega)
    rw [show ((n - 1 : Nat) : Int) = (n : Int) - 1 by omega] at hbit
    obtain ⟨y, hy⟩ : ∃ y, n &&& (n - 1) = y := ⟨_, rfl⟩
    rw [hy] at hbit hp
    have hzb : ((n : Int) == 0) = false := beq_eq_false_iff_ne.2 (by omega)
    have hyb : ((y : Int) != 0) = true := by rw [bne_iff_ne]; omega
    clear ha h hy hp
    go_enter Try.func4, Try.ntmps4
    go_wp2_with (go_at_call 10; refine (bytesD_yes _ _ _ _ _ _ _ hs').mono ?_; rintro e w' ⟨rfl, rfl⟩)
    go_ret
    exact ⟨rfl, Below.refl _ _⟩

set_option maxRecDepth 100000 in
set_option maxHeartbeats 4000000 in
theorem dbl_unknown (b off c0 c1 : Nat) (a1 : Option Addr) (Z : List Int) (m : Nat) (w : World) (hs : Z.length + m ≤ 1048576) (h0 : Z.length ≤ 65536) (h1 : m ≤ 65536) (h8 : 8 * Z.length + 8 * m ≤ 1048576) (hn0 : 0 < Z.length)
    (hp : Z.length &&& (Z.length - 1) = 0) (hR : RowU w b off Z) (hZ : FitU Z) (hk : knownB m Z = false) :
    Calls Try.prog 4 #[.slice (some ⟨b, off, none⟩) Z.length c0, .slice a1 m c1] w fun e w' => e = .returned (.bool true) ∧ Below w.heap.size w w' := by
  have hbit : bits .and .i64 (Z.length : Int) ((Z.length : Int) - 1) = 0 := by
    have := i64_and_nat Z.length (Z.length - 1) (by omega) (by omega)
    rw [show ((Z.length - 1 : Nat) : Int) = (Z.length : Int) - 1 by omega, hp] at this
    exact this
  have hzb : ((Z.length : Int) == 0) = false := beq_eq_false_iff_ne.2 (by omega)
  have HK : Hid (knownB m Z = false) := hk
  clear hp hk
  go_enter Try.func4, Try.ntmps4
  go_wp2_with (go_at_call 10; refine (bytesD_yes _ _ _ _ _ _ _ hs).mono ?_; rintro e w' ⟨rfl, rfl⟩)
  refine (known_some b off Z c0 m (by omega) (by omega) hZ w hR).mono ?_
  rintro e w' ⟨rfl, hw'⟩
  subst hw'
  rw [HK.out]
  go_wp2
  go_ret
  exact ⟨rfl, Below.refl _ _⟩

theorem dbl_walk (a0 : Option Addr) (len0 cap0 : Nat) (z0 : List Int) (a1 : Option Addr) (len1 cap1 : Nat) (z1 : List Int) (w : World) (w0 : IsRow .u64 w a0 len0 cap0 z0) (w1 : IsRow .u64 w a1 len1 cap1 z1) :
    Calls Try.prog 4 #[.slice a0 len0 cap0, .slice a1 len1 cap1] w fun e w' => e = .returned (.bool true) ∧ Below w.heap.size w w' := by
  obtain ⟨Z, rfl, hS0, hF0, hl0⟩ := row_view w0
  obtain ⟨T, rfl, hS1, hF1, hl1⟩ := row_view w1
  by_cases h : 1048576 < Z.length + T.length ∨ 65536 < Z.length ∨ 65536 < T.length ∨ 1048576 < 8 * Z.length + 8 * T.length ∨ Z.length = 0 ∨ ¬ Z.length &&& (Z.length - 1) = 0
  · exact dbl_early a0 a1 _ _ cap0 cap1 w hl0 hl1 h
  · have hp : Z.length &&& (Z.length - 1) = 0 := by
      rcases Nat.decEq (Z.length &&& (Z.length - 1)) 0 with e | e
      · exact absurd (.inr (.inr (.inr (.inr (.inr e))))) h
      · exact e
    obtain ⟨b, off, rfl, hb, hR⟩ := row_of_sl hS0 (by omega)
    cases hk : knownB T.length Z with
    | false => exact dbl_unknown b off cap0 cap1 a1 Z T.length w (by omega) (by omega) (by omega) (by omega) (by omega) hp hR hF0 hk
    | true => exact dbl_main b off cap0 cap1 a1 Z T w (by omega) (by omega) (by omega) (by omega) (by omega) hp hb hR hS1 hF0 hF1 hk
end Go.Proofs.Qxb6616132a
