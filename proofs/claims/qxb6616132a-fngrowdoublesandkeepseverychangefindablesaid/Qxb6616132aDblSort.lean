/-
  THE WALK of sortedU64B1, by induction on the length.
-/
import Derived.Test.Qxb6616132aDblMerge
namespace Go.Proofs.Qxb6616132a
open Go.RowKit

/-- What sortedU64B1 is proved to do, at slices of fewer than N elements. -/
def SortsTo (N : Nat) : Prop := ∀ (a : Option Addr) (zs : List Int) (n cap : Nat) (w : World), zs.length = n → n < N → n ≤ cap → n ≤ 1048576 → SlU w a zs →
  Calls Try.prog 17 #[.slice a n cap] w fun e w' => ∃ a' c', e = .returned (.slice a' n c') ∧ n ≤ c' ∧ ∃ ys, ys.length = n ∧ ys.Perm zs ∧ UpU ys ∧ SlU w' a' ys ∧ Below w.heap.size w w'

theorem SlU.take {w : World} {b off : Nat} {zs : List Int} (h : SlU w (some ⟨b, off, none⟩) zs) (k : Nat) : SlU w (some ⟨b, off, none⟩) (zs.take k) := by
  intro i hi
  rw [List.length_take] at hi
  obtain ⟨b', off', e, hb, hc⟩ := h i (by omega)
  refine ⟨b', off', e, hb, ?_⟩
  rw [hc]
  simp [List.getD_eq_getElem?_getD, show i < k by omega]
theorem SlU.drop {w : World} {b off : Nat} {zs : List Int} (h : SlU w (some ⟨b, off, none⟩) zs) (k : Nat) : SlU w (some ⟨b, off + k, none⟩) (zs.drop k) := by
  intro i hi
  rw [List.length_drop] at hi
  obtain ⟨b', off', e, hb, hc⟩ := h (k + i) (by omega)
  simp only [Option.some.injEq, Addr.mk.injEq, and_true] at e
  obtain ⟨rfl, rfl⟩ := e
  refine ⟨b, off + k, rfl, hb, ?_⟩
  rw [Nat.add_assoc, hc]
  simp [List.getD_eq_getElem?_getD]

theorem one_new (w : World) (v : Value) : ∀ j u, [v][j]? = some u → (w.alloc (.cells #[v] 39)).cell? ((⟨w.heap.size, 0, none⟩ : Addr).add j) = some u := by
  intro t u h
  match t, h with
  | 0, h =>
    simp at h
    subst h
    simp [Addr.add]
theorem one_new_d (w : World) (d : Nat) (v : Value) : ∀ j u, [v][j]? = some u → ((w.drewN d).alloc (.cells #[v] 39)).cell? ((⟨w.heap.size, 0, none⟩ : Addr).add j) = some u :=
  one_new (w.drewN d) v
theorem one_cell (z : Int) : ∀ u ∈ [Value.int .u64 z], u.oneCell' = true := by
  intro u hu; simp at hu; subst hu; rfl

set_option maxRecDepth 4000 in
set_option maxHeartbeats 1600000 in
theorem sorted_step (N : Nat) (ih : SortsTo N) : SortsTo (N + 1) := by
  intro a zs n cap w hzl hN hcap hn hs
  by_cases h1 : n ≤ 1
  · subst hzl
    go_enter Try.func17, Try.ntmps17
    go_wp2_with fail
    refine (clone_any a zs cap (by omega) w hs).mono ?_
    rintro e w' ⟨a', rfl, hs', hb'⟩
    go_wp2_with fail
    go_ret
    refine ⟨a', zs.length, rfl, Nat.le_refl _, zs, rfl, List.Perm.refl _, ?_, hs', hb'⟩
    match zs, h1 with
    | [], _ => exact List.Pairwise.nil
    | [x], _ => exact List.pairwise_singleton _ _
  · obtain ⟨b, off, rfl, hb, _⟩ := hs 0 (by omega)
    obtain ⟨h, hh⟩ : ∃ h : Nat, n / 2 = h := ⟨_, rfl⟩
    have hmid : (n : Int) / 2 = (h : Int) := by omega
    have hb1 : 1 ≤ h := by omega
    have hb2 : h < n := by omega
    have hcne : ¬ cap = h := by omega
    obtain ⟨i0, hi, hz0, hz1, hz2⟩ := info_parts Try.info39
    have hmk := make0_u64 n (by omega)
    have IH := ih
    replace IH : Hid (SortsTo N) := IH
    have HZ : Hid (zs.length = n) := hzl
    clear ih hh hzl
    go_enter Try.func17, Try.ntmps17
    go_wp2_with fail
    refine (IH.out (some ⟨b, off, none⟩) (zs.take h) h cap w (by rw [List.length_take, HZ.out]; omega) (by omega) (by omega) (by omega) (hs.take h)).mono ?_
    rintro e W1 ⟨la, lc, rfl, hlc, L, hL, hLp, hLu, hLs, hLb⟩
    have B1 : Hid (Below w.heap.size w W1) := hLb
    have HL : Hid (L.length = h ∧ L.Perm (zs.take h) ∧ UpU L ∧ SlU W1 la L) := ⟨hL, hLp, hLu, hLs⟩
    clear hL hLp hLu hLs hLb
    go_wp2_with fail
    refine (IH.out (some ⟨b, off + h, none⟩) (zs.drop h) (n - h) (cap - h) W1 (by rw [List.length_drop, HZ.out]) (by omega) (by omega) (by omega) ((hs.drop h).below B1.out)).mono ?_
    rintro e W2 ⟨ha, hc, rfl, hhc, H, hH, hHp, hHu, hHs, hHb⟩
    have B2 : Hid (Below w.heap.size w W2) := B1.out.trans (hHb.mono B1.out.size)
    have HH : Hid (H.length = n - h ∧ H.Perm (zs.drop h) ∧ UpU H ∧ SlU W2 ha H ∧ SlU W2 la L) := ⟨hH, hHp, hHu, hHs, HL.out.2.2.2.below hHb⟩
    clear hH hHp hHu hHs hHb hs
    have HM : Hid (List.merge L H leI = List.merge L H leI) := rfl
    go_upto_block 0 with fail
    go_cut [6, 7, 8] from 28 to 64 (fun o si sj wx => ∃ (i j : Nat) (xs : List Int), si = .int .i64 i ∧ sj = .int .i64 j ∧ i ≤ h ∧ j ≤ n - h ∧ o = .slice (some ⟨W2.heap.size, 0, none⟩) (i + j) n ∧ Hid (MrgAt n L H W2 wx i j xs) ∧ (i < h → j = n - h))
    case first =>
      go_wp2_with fail
      go_loopw [6, 7, 8] (fun o si sj wx => ∃ (i j : Nat) (xs : List Int), si = .int .i64 i ∧ sj = .int .i64 j ∧ i ≤ h ∧ j ≤ n - h ∧ o = .slice (some ⟨W2.heap.size, 0, none⟩) (i + j) n ∧ Hid (MrgAt n L H W2 wx i j xs)) (fun _ si sj _ => (h - (intOf si).toNat) + (n - h - (intOf sj).toNat))
      case atStart => exact ⟨0, 0, [], rfl, rfl, Nat.zero_le _, Nat.zero_le _, rfl, Nat.zero_le _, Nat.zero_le _, rfl, OwnU.made W2 n (by omega), by simp, (Below.refl _ _).alloc (Nat.le_refl _) _⟩
      case round =>
        obtain ⟨i, j, xs, rfl, rfl, hil, hjl, rfl, HR⟩ := hrel
        clear hmk
        have hws := HR.out.bel.size
        by_cases hib : i < h
        · by_cases hjb : j < n - h
          · obtain ⟨lb, lo, rfl, hlb, hcl⟩ := HH.out.2.2.2.2 i (by rw [HL.out.1]; exact hib)
            obtain ⟨rb, ro, rfl, hrb, hcr⟩ := HH.out.2.2.2.1 j (by rw [HH.out.1]; exact hjb)
            rw [← HR.out.bel.cell (by exact hlb)] at hcl
            rw [← HR.out.bel.cell (by exact hrb)] at hcr
            obtain ⟨x, hx⟩ : ∃ x, L.getD i 0 = x := ⟨_, rfl⟩
            obtain ⟨y, hy⟩ : ∃ y, H.getD j 0 = y := ⟨_, rfl⟩
            rw [hx] at hcl
            rw [hy] at hcr
            have HX : Hid (L.getD i 0 = x) := hx
            have HY : Hid (H.getD j 0 = y) := hy
            clear hx hy
            have hji : (j : Int) < ((n - h : Nat) : Int) := by omega
            have hii : (i : Int) < (h : Int) := by omega
            by_cases hyx : y < x
            · go_wp2
              go_quiet (fail)
              have hown := HR.out.own
              unfold OwnU at hown
              go_wp2_with (at_builtin; refine wpList_append_fits _ rfl (.tmp 47) (.tmp 52) 30 rfl W2.heap.size 39 i0 1 Try.underlying30 hi hz1 W2.heap.size (i + j) n _ rfl (hown.alloc _) ⟨wr.heap.size, 0, none⟩ 1 1 [.int .u64 y] rfl rfl (one_new_d _ _ _) (one_cell _) (by omega) ?_; intro w1 hown1 hgrow1)
              have HR' := mrg_h (HR.out.drewN nq) (by rw [HL.out.1]; exact hib) (by rw [HH.out.1]; exact hjb) HY.out (by rw [HX.out]; exact hyx) hown1 hgrow1
              go_roundw
              case rel => exact ⟨i, j + 1, xs ++ [y], rfl, by go_num, hil, by omega, rfl, HR'⟩
              case measure => simp [intOf]; omega
            · go_wp2
              go_quiet (fail)
              have hown := HR.out.own
              unfold OwnU at hown
              go_wp2_with (at_builtin; refine wpList_append_fits _ rfl (.tmp 56) (.tmp 61) 30 rfl W2.heap.size 39 i0 1 Try.underlying30 hi hz1 W2.heap.size (i + j) n _ rfl (hown.alloc _) ⟨wr.heap.size, 0, none⟩ 1 1 [.int .u64 x] rfl rfl (one_new_d _ _ _) (one_cell _) (by omega) ?_; intro w1 hown1 hgrow1)
              have HR' := mrg_l (HR.out.drewN nq) (by rw [HL.out.1]; exact hib) (by rw [HH.out.1]; exact hjb) HX.out (by rw [HY.out]; omega) hown1 hgrow1
              go_roundw
              case rel => exact ⟨i + 1, j, xs ++ [x], by go_num, rfl, by omega, hjl, by congr 1; omega, HR'⟩
              case measure => simp [intOf]; omega
          · have hjn : ¬ (j : Int) < ((n - h : Nat) : Int) := by omega
            have hii : (i : Int) < (h : Int) := by omega
            go_wp2
            go_meet
            exact ⟨i, j, xs, rfl, rfl, hil, hjl, rfl, HR, fun _ => by omega⟩
        · have hii : ¬ (i : Int) < (h : Int) := by omega
          go_wp2
          go_meet
          exact ⟨i, j, xs, rfl, rfl, hil, hjl, rfl, HR, fun hlt => absurd hlt hib⟩
    case rest =>
    obtain ⟨i1, j, xs1, rfl, rfl, hi1, hj1, rfl, HR1, hex1⟩ := hcut
    obtain ⟨Wa, hWa⟩ : ∃ x, x = wc := ⟨_, rfl⟩
    subst hWa
    go_upto_block 2 with fail
    go_cut [6, 7] from 28 to 90 (fun o si wx => ∃ (xs : List Int), si = .int .i64 h ∧ o = .slice (some ⟨W2.heap.size, 0, none⟩) (h + j) n ∧ Hid (MrgAt n L H W2 wx h j xs))
    case first =>
      go_wp2_with fail
      go_loopw [6, 7] (fun o si wx => ∃ (i : Nat) (xs : List Int), si = .int .i64 i ∧ i ≤ h ∧ o = .slice (some ⟨W2.heap.size, 0, none⟩) (i + j) n ∧ Hid (MrgAt n L H W2 wx i j xs) ∧ (i < h → j = n - h)) (fun _ si _ => h - (intOf si).toNat)
      case atStart => exact ⟨i1, xs1, rfl, hi1, rfl, HR1, hex1⟩
      case round =>
        obtain ⟨i, xs, rfl, hil, rfl, HR, hex⟩ := hrel
        clear hmk HR1 hex1
        have hws := HR.out.bel.size
        by_cases hib : i < h
        · have hjn := hex hib
          obtain ⟨lb, lo, rfl, hlb, hcl⟩ := HH.out.2.2.2.2 i (by rw [HL.out.1]; exact hib)
          rw [← HR.out.bel.cell (by exact hlb)] at hcl
          obtain ⟨x, hx⟩ : ∃ x, L.getD i 0 = x := ⟨_, rfl⟩
          rw [hx] at hcl
          have HX : Hid (L.getD i 0 = x) := hx
          have hii : (i : Int) < (h : Int) := by omega
          have hfit : i + j + 1 ≤ n := by omega
          have HJ : Hid (H.length ≤ j) := by rw [HH.out.1, hjn]; exact Nat.le_refl _
          have hown := HR.out.own
          unfold OwnU at hown
          clear hx hjn hex
          go_wp2_with (at_builtin; refine wpList_append_fits _ rfl (.tmp 71) (.tmp 76) 30 rfl W2.heap.size 39 i0 1 Try.underlying30 hi hz1 W2.heap.size (i + j) n _ rfl (hown.alloc _) ⟨wr.heap.size, 0, none⟩ 1 1 [.int .u64 x] rfl rfl (one_new _ _) (one_cell _) (by omega) ?_; intro w1 hown1 hgrow1)
          have HR' := mrg_tl HR.out (by rw [HL.out.1]; exact hib) HJ.out HX.out hown1 hgrow1
          go_roundw
          case rel => exact ⟨i + 1, xs ++ [x], by go_num, by omega, by congr 1; omega, HR', fun _ => by have := HJ.out; rw [HH.out.1] at this; omega⟩
          case measure => simp [intOf]; omega
        · have hii : ¬ (i : Int) < (h : Int) := by omega
          have hie : i = h := by omega
          subst hie
          clear hmid
          go_wp2
          go_meet
          exact ⟨xs, rfl, rfl, HR⟩
    case rest =>
    obtain ⟨xs2, rfl, rfl, HR2⟩ := hcut
    obtain ⟨Wb, hWb⟩ : ∃ x, x = wc := ⟨_, rfl⟩
    subst hWb
    clear HR1 hex1
    go_wp2_with fail
    go_loopw [6, 8] (fun o sj wx => ∃ (j : Nat) (xs : List Int), sj = .int .i64 j ∧ j ≤ n - h ∧ o = .slice (some ⟨W2.heap.size, 0, none⟩) (h + j) n ∧ Hid (MrgAt n L H W2 wx h j xs)) (fun _ sj _ => n - h - (intOf sj).toNat)
    case atStart => exact ⟨j, xs2, rfl, hj1, rfl, HR2⟩
    case round =>
      clear HR2 hj1
      obtain ⟨j, xs, rfl, hjl, rfl, HR⟩ := hrel
      clear hmk
      have hws := HR.out.bel.size
      by_cases hjb : j < n - h
      · obtain ⟨rb, ro, rfl, hrb, hcr⟩ := HH.out.2.2.2.1 j (by rw [HH.out.1]; exact hjb)
        rw [← HR.out.bel.cell (by exact hrb)] at hcr
        obtain ⟨y, hy⟩ : ∃ y, H.getD j 0 = y := ⟨_, rfl⟩
        rw [hy] at hcr
        have HY : Hid (H.getD j 0 = y) := hy
        have hji : (j : Int) < ((n - h : Nat) : Int) := by omega
        have hfit : h + j + 1 ≤ n := by omega
        have hown := HR.out.own
        unfold OwnU at hown
        clear hy
        go_wp2_with (at_builtin; refine wpList_append_fits _ rfl (.tmp 84) (.tmp 89) 30 rfl W2.heap.size 39 i0 1 Try.underlying30 hi hz1 W2.heap.size (h + j) n _ rfl (hown.alloc _) ⟨wr.heap.size, 0, none⟩ 1 1 [.int .u64 y] rfl rfl (one_new _ _) (one_cell _) (by omega) ?_; intro w1 hown1 hgrow1)
        have HR' := mrg_th HR.out (by rw [HL.out.1]; exact Nat.le_refl _) (by rw [HH.out.1]; exact hjb) HY.out hown1 hgrow1
        go_roundw
        case rel => exact ⟨j + 1, xs ++ [y], by go_num, by omega, rfl, HR'⟩
        case measure => simp [intOf]; omega
      · have hji : ¬ (j : Int) < ((n - h : Nat) : Int) := by omega
        have hje : h + j = n := by omega
        have HE := mrg_end HR.out (by rw [HL.out.1]; exact Nat.le_refl _) (by rw [HH.out.1]; omega)
        have hlen : xs.length = n := by rw [HR.out.len, hje]
        have hP : xs.Perm zs := by
          rw [HE]
          refine (List.merge_perm_append leI).trans ?_
          refine (HL.out.2.1.append HH.out.2.1).trans ?_
          rw [List.take_append_drop]
        have hU : UpU xs := by rw [HE]; exact merge_up HL.out.2.2.1 HH.out.2.2.1
        have hO := HR.out.own
        rw [hje] at hO
        have HF : Hid (xs.length = n ∧ xs.Perm zs ∧ UpU xs ∧ SlU wr (some ⟨W2.heap.size, 0, none⟩) xs ∧ Below w.heap.size w wr) := ⟨hlen, hP, hU, SlU.of_row hO.lt (hO.row hlen), B2.out.trans (HR.out.bel.mono B2.out.size)⟩
        have HJ : Hid (h + j = n) := hje
        clear HE hlen hP hU hO hje
        go_wp2
        go_ret
        exact ⟨some ⟨W2.heap.size, 0, none⟩, n, by rw [← HJ.out]; rfl, Nat.le_refl _, xs, HF.out.1, HF.out.2.1, HF.out.2.2.1, HF.out.2.2.2.1, HF.out.2.2.2.2⟩

theorem sorted_all (N : Nat) : SortsTo N := by
  induction N with
  | zero => intro a zs n cap w _ h; omega
  | succ N ih => exact sorted_step N ih

end Go.Proofs.Qxb6616132a
