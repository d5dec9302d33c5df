/-
  THE WALKS of sameU64B1 and probeOKB1.
-/
import Derived.Test.Qxb6616132aDblSort
namespace Go.Proofs.Qxb6616132a
open Go.RowKit

set_option maxRecDepth 4000 in
set_option maxHeartbeats 800000 in
/-- sameU64B1 at two slices that read as one list. -/
theorem same_yes (a b : Option Addr) (zs : List Int) (n ca cb : Nat) (hn : n ≤ 1073741824) (HZ : Hid (zs.length = n)) (w : World) (ha : SlU w a zs) (hb : SlU w b zs) :
    Calls Try.prog 16 #[.slice a n ca, .slice b n cb] w fun e w' => e = .returned (.bool true) ∧ Below w.heap.size w w' := by
  go_enter Try.func16, Try.ntmps16
  go_wp2
  go_loopw [5] (fun i wr => ∃ k d : Nat, k ≤ n ∧ i = .int .i64 k ∧ wr = w.drewN d) (fun i _ => n - (intOf i).toNat)
  case atStart => exact ⟨0, 0, Nat.zero_le _, rfl, rfl⟩
  case round =>
    obtain ⟨k, d, hk, rfl, rfl⟩ := hrel
    by_cases hlt : k < n
    · obtain ⟨ba, oa, rfl, _, hca⟩ := ha k (by rw [HZ.out]; exact hlt)
      obtain ⟨bb, ob, rfl, _, hcb⟩ := hb k (by rw [HZ.out]; exact hlt)
      obtain ⟨z, hz⟩ : ∃ z, zs.getD k 0 = z := ⟨_, rfl⟩
      rw [hz] at hca hcb
      have hki : (k : Int) < (n : Int) := by omega
      clear hz ha hb
      go_wp2
      go_quiet (fail)
      go_wp2
      go_roundw
      case rel => exact ⟨k + 1, d + nq, by omega, by go_num, rfl⟩
      case measure => simp [intOf]; omega
    · have hki : ¬ (k : Int) < (n : Int) := by omega
      clear ha hb
      go_wp2
      go_ret
      exact ⟨rfl, below_drewN (Below.refl _ _) _⟩

/-- 'x & (2^q - 1)' on a uint64. -/
theorem u64_mask (x : Int) (q : Nat) (hq : q ≤ 62) (h0 : 0 ≤ x) (h1 : x < 18446744073709551616) : bits .and .u64 x ((2 ^ q : Nat) - 1 : Int) = x % (2 ^ q : Nat) := by
  have hp : 0 < 2 ^ q := Nat.two_pow_pos q
  have hp' : 2 ^ q ≤ 2 ^ 62 := Nat.pow_le_pow_right (by decide) hq
  have e1 : ((2 ^ q : Nat) - 1 : Int) = ((2 ^ q - 1 : Nat) : Int) := by omega
  obtain ⟨X, rfl⟩ := Int.eq_ofNat_of_zero_le h0
  rw [e1, u64_and_nat X (2 ^ q - 1) (by omega) (by omega), Nat.and_two_pow_sub_one_eq_mod]
  rfl

set_option maxRecDepth 4000 in
set_option maxHeartbeats 1600000 in
theorem probe_yes (gb m q : Nat) (G T : List Int) (gc tc : Nat) (ta : Option Addr) (w : World) (hm0 : 0 < m) (hm1 : m ≤ 2097152) (ht1 : T.length ≤ 1048576) (HG : Hid (G.length = m)) (HQ : Hid (m = 2 ^ q ∧ q ≤ 62))
    (HR : Hid (RowU w gb 0 G)) (HS : Hid (SlU w ta T)) (HF : Hid (FitU G ∧ FitU T)) (HK : Hid (knownB T.length G = true)) (HI : Hid (Findable (homeU T m) G)) (HE : Hid (FreeO (occ G))) :
    Calls Try.prog 19 #[.slice (some ⟨gb, 0, none⟩) m gc, .slice ta T.length tc] w fun e w' => e = .returned (.bool true) ∧ w = w' := by
  have hmask : ∀ x, bits .and .i64 x ((m : Int) - 1) = x % (m : Int) := by
    intro x
    have := i64_mask x q HQ.out.2
    rw [← HQ.out.1] at this
    exact this
  go_enter Try.func19, Try.ntmps19
  go_upto_block 0 with fail
  go_cut [6, 7] from 16 to 82 (fun s6 _ wx => (∃ e : Nat, e < m ∧ s6 = .int .i64 e ∧ Hid (G.getD e 0 = 0)) ∧ wx = w)
  case first =>
    go_wp2_with fail
    go_loop [6, 7] (fun s6 s7 => ∃ k : Nat, k ≤ m ∧ s6 = .int .i64 (-1) ∧ s7 = .int .i64 k ∧ Hid (∀ j, j < k → G.getD j 0 ≠ 0)) (fun _ s7 => m - (intOf s7).toNat)
    case atStart => exact ⟨0, Nat.zero_le _, rfl, rfl, fun j hj => absurd hj (by omega)⟩
    case round =>
      obtain ⟨k, hk, rfl, rfl, HA⟩ := hrel
      clear hmask
      by_cases hlt : k < m
      · have hck := HR.out k (by rw [HG.out]; exact hlt)
        rw [Nat.zero_add] at hck
        obtain ⟨z, hz⟩ : ∃ z, G.getD k 0 = z := ⟨_, rfl⟩
        rw [hz] at hck
        have HZ : Hid (G.getD k 0 = z) := hz
        have hki : (k : Int) < (m : Int) := by omega
        clear hz
        by_cases hz0 : z = 0
        · have hzb : (z == 0) = true := by simp [hz0]
          have HE0 : Hid (G.getD k 0 = 0) := HZ.out.trans hz0
          clear hz0
          go_wp2
          go_meet
          exact ⟨⟨k, hlt, rfl, HE0⟩, rfl⟩
        · have hzb : (z == 0) = false := by simp [hz0]
          have HN : Hid (∀ j, j < k + 1 → G.getD j 0 ≠ 0) := by
            intro j hj
            by_cases e : j = k
            · subst e; rw [HZ.out]; exact hz0
            · exact HA.out j (by omega)
          clear hz0
          go_wp2
          go_round
          case rel => exact ⟨k + 1, by omega, rfl, by go_num, HN⟩
          case measure => simp [intOf]; omega
      · exfalso
        obtain ⟨j, hj, hf⟩ := HE.out
        rw [occ_length] at hj
        rw [occ_getD G j hj] at hf
        exact HA.out j (by rw [HG.out] at hj; omega) (by simpa using hf)
  case rest =>
  obtain ⟨⟨e, he, rfl, HE0⟩, hwc⟩ := hcut
  subst hwc
  have hei : (0 : Int) ≤ (e : Int) := by omega
  go_wp2
  go_loop [9, 10, 11, 12, 13, 14, 15] (fun s9 s10 _ _ _ _ _ => ∃ s r : Nat, s ≤ m ∧ r ≤ s ∧ s9 = .int .i64 r ∧ s10 = .int .i64 (s + 1) ∧ Hid (G.getD ((e + (s - r)) % m) 0 = 0)) (fun _ s10 _ _ _ _ _ => m + 1 - (intOf s10).toNat)
  case atStart => exact ⟨0, 0, Nat.zero_le _, Nat.le_refl _, rfl, rfl, by simpa [Hid, Nat.mod_eq_of_lt he] using HE0.out⟩
  case round =>
    obtain ⟨s, r, hs, hr, rfl, rfl, HP⟩ := hrel
    by_cases hlt : s < m
    · obtain ⟨j, hj⟩ : ∃ j, (e + (s + 1)) % m = j := ⟨_, rfl⟩
      have hjm : j < m := by rw [← hj]; exact Nat.mod_lt _ hm0
      have hjr : ((e : Int) + ((s : Int) + 1)) % (m : Int) = (j : Int) := by
        rw [← hj, Int.natCast_emod]; rfl
      have HJ : Hid ((e + (s + 1)) % m = j) := hj
      have hck := HR.out j (by rw [HG.out]; exact hjm)
      rw [Nat.zero_add] at hck
      have hfz := HF.out.1 j
      have hok := known_at HK.out j (by rw [HG.out]; exact hjm)
      obtain ⟨z, hz⟩ : ∃ z, G.getD j 0 = z := ⟨_, rfl⟩
      rw [hz] at hck hfz hok
      have HZ : Hid (G.getD j 0 = z) := hz
      have hji : (j : Int) < (m : Int) := by omega
      clear hz hj
      by_cases hz0 : z = 0
      · have hzb : (z == 0) = true := by simp [hz0]
        have HN : Hid (G.getD ((e + (s + 1 - 0)) % m) 0 = 0) := by
          show G.getD ((e + (s + 1)) % m) 0 = 0
          rw [HJ.out, HZ.out]; exact hz0
        clear hz0 hok
        go_wp2
        go_round
        case rel => exact ⟨s + 1, 0, by omega, Nat.zero_le _, rfl, by go_num, HN⟩
        case measure => simp [intOf]; omega
      · have hzb : (z == 0) = false := by simp [hz0]
        obtain ⟨c, hc1, hc2⟩ : ∃ c : Nat, c < T.length ∧ z % 4294967296 = (c : Int) + 1 := by
          simp only [okB, hzb, Bool.false_or, Bool.and_eq_true, decide_eq_true_eq, bne_iff_ne, ne_eq] at hok
          exact ⟨(z % 4294967296).toNat - 1, by omega, by omega⟩
        have hlow : bits .and .u64 z 4294967295 = (c : Int) + 1 := by rw [low32 z hfz.1 hfz.2]; exact hc2
        obtain ⟨tb, tof, rfl, _, hct⟩ := HS.out c hc1
        have hft := HF.out.2 c
        have hhome : homeU T m z = (T.getD c 0 % (m : Int)).toNat := by
          unfold homeU; rw [hc2]; congr 2
        have hhl := homeU_lt T m z hm0
        obtain ⟨t, ht⟩ : ∃ t, T.getD c 0 = t := ⟨_, rfl⟩
        obtain ⟨h, hh⟩ : ∃ h, homeU T m z = h := ⟨_, rfl⟩
        rw [ht] at hct hft hhome
        rw [hh] at hhl hhome
        have hth : bits .and .u64 t ((m : Int) - 1) = (h : Int) := by
          have := u64_mask t q HQ.out.2 hft.1 hft.2
          rw [← HQ.out.1] at this
          rw [this]
          have h1 := Int.emod_nonneg t (show (m : Int) ≠ 0 by omega)
          omega
        obtain ⟨D, hD⟩ : ∃ D : Nat, ((j : Int) - (h : Int) + (m : Int)) % (m : Int) = (D : Int) := by
          have h1 := Int.emod_nonneg ((j : Int) - (h : Int) + (m : Int)) (show (m : Int) ≠ 0 by omega)
          exact ⟨_, (Int.toNat_of_nonneg h1).symm⟩
        have hDm : D < m := by
          have := Int.emod_lt_of_pos ((j : Int) - (h : Int) + (m : Int)) (show (0 : Int) < (m : Int) by omega)
          omega
        have hDj : (h + D) % m = j := by
          have e1 : (((h + D) % m : Nat) : Int) = ((h : Int) + ((j : Int) - (h : Int) + (m : Int)) % (m : Int)) % (m : Int) := by
            rw [hD, Int.natCast_emod]; rfl
          rw [Int.add_emod_emod, show (h : Int) + ((j : Int) - (h : Int) + (m : Int)) = (j : Int) + (m : Int) by omega, Int.add_emod_right, Int.emod_eq_of_lt (by omega) hji] at e1
          omega
        have hlt2 : D < r + 1 := by
          refine probe_test (home := homeU T m) HG.out HI.out (e := e) (s := s + 1) (r := r + 1) (j := j) (by omega) hjm HJ.out.symm ?_ ?_ hDm ?_
          · rw [show s + 1 - (r + 1) = s - r by omega]; exact HP.out
          · rw [HZ.out]; exact hz0
          · rw [HZ.out, hh]; exact hDj
        have hDr : (D : Int) < (r : Int) + 1 := by omega
        have HN : Hid (G.getD ((e + (s + 1 - (r + 1))) % m) 0 = 0) := by
          rw [show s + 1 - (r + 1) = s - r by omega]; exact HP
        have hcm : (c : Int) + 1 ≤ (T.length : Int) := by omega
        have hcb : ((c : Int) + 1 == 0) = false := beq_eq_false_iff_ne.2 (by omega)
        have hci : (c : Int) < (T.length : Int) := by omega
        clear hh hhome ht hok hfz hft hc2 hz0 hDj hlt2
        go_wp2
        go_round
        case rel => exact ⟨s + 1, r + 1, by omega, by omega, by go_num, by go_num, HN⟩
        case measure => simp [intOf]; omega
    · have hsm : s = m := by omega
      subst hsm
      go_wp2
      go_ret
      exact ⟨rfl, rfl⟩
end Go.Proofs.Qxb6616132a
