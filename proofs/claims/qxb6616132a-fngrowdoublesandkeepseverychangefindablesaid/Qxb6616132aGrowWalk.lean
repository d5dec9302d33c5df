/-
  THE WALKS of grow, ZZgrow, ZZpendingIndex and the byte bound.
-/
import Derived.Test.Qxb6616132aGrowNew
namespace Go.Proofs.Qxb6616132a
open Go.RowKit

/-- Where the change that slot z names has its home in a table of m slots. -/
def homeU (ts : List Int) (m : Nat) (z : Int) : Nat := (ts.getD ((z % 4294967296).toNat - 1) 0 % (m : Int)).toNat

theorem homeU_lt (ts : List Int) (m : Nat) (z : Int) (h : 0 < m) : homeU ts m z < m := by
  unfold homeU
  have h1 := Int.emod_nonneg (ts.getD ((z % 4294967296).toNat - 1) 0) (show (m : Int) ≠ 0 by omega)
  have h2 := Int.emod_lt_of_pos (ts.getD ((z % 4294967296).toNat - 1) 0) (show (0 : Int) < (m : Int) by omega)
  omega

/-- The table behind k of the old slots. -/
def gk (ts : List Int) (m : Nat) (zs : List Int) (k : Nat) : List Int := growU (homeU ts m) m (zs.take k)
theorem gk_length (ts : List Int) (m : Nat) (zs : List Int) (k : Nat) : (gk ts m zs k).length = m := growU_length _ _ _
theorem gk_zero (ts : List Int) (m : Nat) (zs : List Int) : gk ts m zs 0 = zerosU m := by simp [gk, growU, zerosU]
theorem gk_end (ts : List Int) (m : Nat) (zs : List Int) (k : Nat) (h : zs.length ≤ k) : gk ts m zs k = growU (homeU ts m) m zs := by
  unfold gk; rw [List.take_of_length_le h]
theorem gk_succ (ts : List Int) (m : Nat) (zs : List Int) (k : Nat) (h : k < zs.length) : gk ts m zs (k + 1) = insU (homeU ts m) (gk ts m zs k) (zs.getD k 0) := by
  unfold gk growU
  rw [List.take_succ_eq_append_getElem h, List.foldl_append]
  simp [List.getD_eq_getElem?_getD, h]
theorem gk_cnt (ts : List Int) (m : Nat) (zs : List Int) (k : Nat) (h : zs.length ≤ m) : cntU (gk ts m zs k) ≤ k := by
  unfold gk
  rw [cnt_growU _ _ _ (by rw [List.length_take]; omega)]
  have := cnt_le (zs.take k)
  rw [List.length_take] at this
  omega
theorem gk_free (ts : List Int) (m : Nat) (zs : List Int) (k : Nat) (hk : k < zs.length) (h : zs.length ≤ m) : FreeO (occ (gk ts m zs k)) := by
  refine free_of_cnt _ ?_
  have := gk_cnt ts m zs k h
  rw [gk_length]
  omega

theorem cells_get {g : List Int} {m : Nat} (hl : g.length = m) (j : Nat) (h : j < m) : (cellsU g)[j]? = some (.int .u64 (g.getD j 0)) := cellsU_get g j (by omega)

theorem modc (s n : Nat) : ((s : Int) + 1) % (2 * (n : Int)) = (((s + 1) % (2 * n) : Nat) : Int) := by
  rw [Int.natCast_emod]; rfl

theorem inner_step {g : List Int} {m : Nat} (hl : g.length = m) (hF : FreeO (occ g)) {s : Nat} (hs : s < m) (hx : g.getD s 0 ≠ 0) :
    gapO (occ g) ((s + 1) % m) < gapO (occ g) s ∧ slotO (occ g) ((s + 1) % m) = slotO (occ g) s := by
  have ht : (occ g).getD (s % (occ g).length) true = true := by
    rw [occ_length, hl, Nat.mod_eq_of_lt hs, occ_getD g s (by omega)]; simpa using hx
  have e : (s + 1) % m = (s + 1) % (occ g).length := by rw [occ_length, hl]
  rw [e, gapO_mod, slotO_mod, gapO_step _ s hF ht]
  exact ⟨by omega, slotO_step _ s hF ht⟩
theorem inner_here {g : List Int} {m : Nat} (hl : g.length = m) {s : Nat} (hs : s < m) (hx : g.getD s 0 = 0) : slotO (occ g) s = s := by
  have hf : (occ g).getD (s % (occ g).length) true = false := by
    rw [occ_length, hl, Nat.mod_eq_of_lt hs, occ_getD g s (by omega), hx]; rfl
  rw [slotO_here _ s (by rw [occ_length]; omega) hf, occ_length, hl, Nat.mod_eq_of_lt hs]

set_option maxRecDepth 4000 in
set_option maxHeartbeats 1000000 in
theorem grow_any (pb cb b off c0 n q : Nat) (zs ts : List Int) (w : World) (hn : zs.length = n) (hq : 2 * n = 2 ^ q) (hq2 : q ≤ 62) (hn0 : 0 < n) (hn1 : n ≤ 1048576) (ht1 : ts.length ≤ 1048576)
    (hpb : pb < w.heap.size) (hcb : cb < w.heap.size) (hb : b < w.heap.size) (hcp : ¬ cb = pb) (hbp : ¬ b = pb)
    (hp2 : w.cell? ⟨pb, 2, none⟩ = some (.slice (some ⟨cb, 0, none⟩) ts.length ts.length)) (hp3 : w.cell? ⟨pb, 3, none⟩ = some (.slice (some ⟨b, off, none⟩) n c0)) (hpf : w.frozen? ⟨pb, 3, none⟩ = false)
    (hch : ∀ i, i < ts.length → w.cell? ⟨cb, 14 * i + 1, none⟩ = some (.int .u64 (ts.getD i 0))) (hrow : RowU w b off zs)
    (hknown : knownB ts.length zs = true) (hfz : FitU zs) (hft : FitU ts) :
    Calls Try.prog 24 #[.pointer (some ⟨pb, 0, none⟩)] w fun e w' => e = .returned (.tuple #[]) ∧
      w' = (w.setCell ⟨pb, 3, none⟩ (.slice (some ⟨w.heap.size, 0, none⟩) (2 * n) (2 * n))).alloc (.cells (cellsU (growU (homeU ts (2 * n)) (2 * n) zs)) 39) := by
  have hcp' := hcp
  have hmk := make_u64 (2 * n) (by omega)
  have ec : ((2 * n : Nat) : Int) = 2 * (n : Int) := by omega
  rw [ec] at hmk
  have hmask : ∀ x, bits .and .i64 x (2 * (n : Int) - 1) = x % (2 * (n : Int)) := by
    intro x
    have := i64_mask x q hq2
    rw [← hq, ec] at this
    exact this
  have hwm : ∀ x, wrap64 x % (2 * (n : Int)) = x % (2 * (n : Int)) := by
    intro x
    have := wrap64_mod x q hq2
    rw [← hq, ec] at this
    exact this
  clear ec
  have hne1 : ¬ pb = w.heap.size := by omega
  have hne2 : ¬ w.heap.size = pb := by omega
  have hne3 : ¬ cb = w.heap.size := by omega
  have hne4 : ¬ b = w.heap.size := by omega
  have HN : Hid (zs.length = n) := hn
  have HQ : Hid (2 * n = 2 ^ q) := hq
  have HCH : Hid (∀ i, i < ts.length → w.cell? ⟨cb, 14 * i + 1, none⟩ = some (.int .u64 (ts.getD i 0))) := hch
  have HK : Hid (knownB ts.length zs = true) := hknown
  clear hn hq hch hknown
  go_enter Try.func24, Try.ntmps24
  go_wp2
  go_loopw [5, 6, 26] (fun _ _ i wr => ∃ k : Nat, k ≤ n ∧ i = .int .i64 k ∧ wr = (w.setCell ⟨pb, 3, none⟩ (.slice (some ⟨w.heap.size, 0, none⟩) (2 * n) (2 * n))).alloc (.cells (cellsU (gk ts (2 * n) zs k)) 39)) (fun _ _ i _ => n - (intOf i).toNat)
  case atStart => exact ⟨0, Nat.zero_le _, rfl, by rw [gk_zero]⟩
  case round =>
    obtain ⟨k, hk, rfl, rfl⟩ := hrel
    by_cases hlt : k < n
    · have hkz : k < zs.length := by rw [HN.out]; exact hlt
      have hck := hrow k hkz
      have hfk := hfz k
      have hok := known_at HK.out k hkz
      have hsucc := gk_succ ts (2 * n) zs k hkz
      have hgl := gk_length ts (2 * n) zs k
      have hfree := gk_free ts (2 * n) zs k hkz (by rw [HN.out]; omega)
      obtain ⟨z, hz⟩ : ∃ z, zs.getD k 0 = z := ⟨_, rfl⟩
      obtain ⟨g, hg⟩ : ∃ g, gk ts (2 * n) zs k = g := ⟨_, rfl⟩
      rw [hz] at hck hfk hok hsucc
      rw [hg] at hsucc hgl hfree ⊢
      have HS : Hid (gk ts (2 * n) zs (k + 1) = insU (homeU ts (2 * n)) g z) := hsucc
      have HGL : Hid (g.length = 2 * n) := hgl
      have HF : Hid (FreeO (occ g)) := hfree
      clear hz hg hsucc hgl hfree hkz hrow hmk
      by_cases hz0 : z = 0
      · subst hz0
        go_wp2
        go_roundw
        case rel => exact ⟨k + 1, by omega, by go_num, by rw [HS.out, insU_zero]⟩
        case measure => simp [intOf]; omega
      · have hzb : (z == 0) = false := by simp [hz0]
        obtain ⟨c, hc1, hc2⟩ : ∃ c : Nat, c < ts.length ∧ z % 4294967296 = (c : Int) + 1 := by
          simp only [okB, hzb, Bool.false_or, Bool.and_eq_true, decide_eq_true_eq, bne_iff_ne, ne_eq] at hok
          exact ⟨(z % 4294967296).toNat - 1, by omega, by omega⟩
        have hlow : bits .and .u64 z 4294967295 = (c : Int) + 1 := by rw [low32 z hfk.1 hfk.2]; exact hc2
        have hcc := HCH.out c hc1
        have hco : 14 * c = c * 14 := by omega
        rw [hco] at hcc
        have hftc := hft c
        have hhome : homeU ts (2 * n) z = (ts.getD c 0 % ((2 * n : Nat) : Int)).toNat := by
          unfold homeU; rw [hc2]; congr 2
        have hhl := homeU_lt ts (2 * n) z (by omega)
        obtain ⟨t, ht⟩ : ∃ t, ts.getD c 0 = t := ⟨_, rfl⟩
        obtain ⟨h, hh⟩ : ∃ h, homeU ts (2 * n) z = h := ⟨_, rfl⟩
        rw [ht] at hcc hftc hhome
        rw [hh] at hhl hhome
        have hth : t % (2 * (n : Int)) = (h : Int) := by
          have h1 := Int.emod_nonneg t (show (2 * (n : Int)) ≠ 0 by omega)
          rw [show ((2 * n : Nat) : Int) = 2 * (n : Int) by omega] at hhome
          omega
        have HH : Hid (homeU ts (2 * n) z = h) := hh
        clear hh hhome ht hok hfk hc2 hco hftc
        go_wp2
        go_loop [6] (fun v => ∃ s : Nat, s < 2 * n ∧ v = .int .i64 s ∧ Hid (slotO (occ g) s = slotO (occ g) h)) (fun v => gapO (occ g) (intOf v).toNat)
        case atStart => exact ⟨h, hhl, rfl, rfl⟩
        case round =>
          obtain ⟨s, hs, rfl, HE⟩ := hrel
          have hgs := cells_get HGL.out s hs
          have hsi : (s : Int) < 2 * (n : Int) := by omega
          obtain ⟨x, hx⟩ : ∃ x, g.getD s 0 = x := ⟨_, rfl⟩
          rw [hx] at hgs
          have HX : Hid (g.getD s 0 = x) := hx
          clear hx
          by_cases hx0 : x = 0
          · subst hx0
            have hsl : slotO (occ g) h = s := HE.out.symm.trans (inner_here HGL.out hs HX.out)
            have HW : Hid (gk ts (2 * n) zs (k + 1) = g.set s z) := by
              refine HS.out.trans ?_
              unfold insU
              rw [if_neg hz0, HH.out, hsl]
            clear hsl
            go_wp2
            go_roundw
            case rel => exact ⟨k + 1, by omega, by go_num, by rw [HW.out, cellsU_set]⟩
            case measure => simp [intOf]; omega
          · have hxb : (x != 0) = true := by simp [hx0]
            have hst := inner_step HGL.out HF.out hs (by rw [HX.out]; exact hx0)
            have HST : Hid (gapO (occ g) ((s + 1) % (2 * n)) < gapO (occ g) s ∧ slotO (occ g) ((s + 1) % (2 * n)) = slotO (occ g) s) := hst
            clear hst hx0
            go_wp2
            go_round
            case rel => exact ⟨(s + 1) % (2 * n), Nat.mod_lt _ (by omega), congrArg _ (modc s n), HST.out.2.trans HE.out⟩
            case measure =>
              rw [modc]
              simp only [intOf, Int.toNat_natCast]
              exact HST.out.1
    · have hkn : k = n := by omega
      subst hkn
      have HE : Hid (gk ts (2 * k) zs k = growU (homeU ts (2 * k)) (2 * k) zs) := gk_end ts (2 * k) zs k (by rw [HN.out]; exact Nat.le_refl _)
      clear hmk hrow
      go_wp2
      go_end0
      exact ⟨rfl, by rw [HE.out]⟩

set_option maxRecDepth 4000 in
set_option maxHeartbeats 400000 in
theorem zzgrow (pb cb b off c0 n q : Nat) (zs ts : List Int) (w : World) (hn : zs.length = n) (hq : 2 * n = 2 ^ q) (hq2 : q ≤ 62) (hn0 : 0 < n) (hn1 : n ≤ 1048576) (ht1 : ts.length ≤ 1048576)
    (hpb : pb < w.heap.size) (hcb : cb < w.heap.size) (hb : b < w.heap.size) (hcp : ¬ cb = pb) (hbp : ¬ b = pb)
    (hp2 : w.cell? ⟨pb, 2, none⟩ = some (.slice (some ⟨cb, 0, none⟩) ts.length ts.length)) (hp3 : w.cell? ⟨pb, 3, none⟩ = some (.slice (some ⟨b, off, none⟩) n c0)) (hpf : w.frozen? ⟨pb, 3, none⟩ = false)
    (hch : ∀ i, i < ts.length → w.cell? ⟨cb, 14 * i + 1, none⟩ = some (.int .u64 (ts.getD i 0))) (hrow : RowU w b off zs)
    (hknown : knownB ts.length zs = true) (hfz : FitU zs) (hft : FitU ts) :
    Calls Try.prog 14 #[.pointer (some ⟨pb, 0, none⟩)] w fun e w' => e = .returned (.tuple #[]) ∧
      w' = (w.setCell ⟨pb, 3, none⟩ (.slice (some ⟨w.heap.size, 0, none⟩) (2 * n) (2 * n))).alloc (.cells (cellsU (growU (homeU ts (2 * n)) (2 * n) zs)) 39) := by
  have G := grow_any pb cb b off c0 n q zs ts w hn hq hq2 hn0 hn1 ht1 hpb hcb hb hcp hbp hp2 hp3 hpf hch hrow hknown hfz hft
  have HG : Hid (Calls Try.prog 24 #[.pointer (some ⟨pb, 0, none⟩)] w fun e w' => e = .returned (.tuple #[]) ∧
      w' = (w.setCell ⟨pb, 3, none⟩ (.slice (some ⟨w.heap.size, 0, none⟩) (2 * n) (2 * n))).alloc (.cells (cellsU (growU (homeU ts (2 * n)) (2 * n) zs)) 39)) := G
  clear G hch hrow hknown hfz hft hp2 hp3 hpf hn hq
  go_enter Try.func14, Try.ntmps14
  go_wp2_with fail
  refine HG.out.mono ?_
  rintro e w1 ⟨rfl, rfl⟩
  go_wp2_with fail
  go_end0
  exact ⟨rfl, rfl⟩

theorem pendIndex (pb : Nat) (v : Value) (w : World) (hp3 : w.cell? ⟨pb, 3, none⟩ = some v) :
    Calls Try.prog 15 #[.pointer (some ⟨pb, 0, none⟩)] w fun e w' => e = .returned v ∧ w = w' := by
  go_enter Try.func15, Try.ntmps15
  go_wp2
  go_ret
  exact ⟨rfl, rfl⟩

theorem bytesG_no (a0 a1 : Option Addr) (l0 c0 l1 c1 : Nat) (w : World) (h0 : l0 ≤ maxLen) (h1 : l1 ≤ maxLen) (h : 1048576 < l0 + l1) :
    Calls Try.prog 20 #[.slice a0 l0 c0, .slice a1 l1 c1] w fun e w' => e = .returned (.bool false) ∧ w = w' := by
  unfold maxLen at h0 h1
  go_enter Try.func20, Try.ntmps20
  go_wp2
  all_goals first
    | (go_ret; exact ⟨rfl, rfl⟩)
    | (exfalso; omega)
theorem bytesG_yes (a0 a1 : Option Addr) (l0 c0 l1 c1 : Nat) (w : World) (h : l0 + l1 ≤ 1048576) :
    Calls Try.prog 20 #[.slice a0 l0 c0, .slice a1 l1 c1] w fun e w' => e = .returned (.bool true) ∧ w = w' := by
  go_enter Try.func20, Try.ntmps20
  go_wp2
  go_ret
  exact ⟨rfl, rfl⟩
end Go.Proofs.Qxb6616132a
