/-
  THE WALK of zzPrefixLengths: it returns two slices of ints of one length.
-/
import Derived.Test.Qxb6616426aI7
namespace Go.Proofs.Qxb6616426a
open Go.RowKit

set_option maxRecDepth 100000 in
set_option maxHeartbeats 4000000 in
theorem prefix_any (a : Option Addr) (xs : List ByteArray) (cap : Nat) (hn : xs.length ≤ 1048577) (w : World) (hS : StrsAt w a xs) (hsz : ∀ i, (xs.getD i ⟨#[]⟩).size ≤ 1048576) :
    Calls Try.prog 10 #[.slice a xs.length cap] w fun e w' => ∃ (a1 : Option Addr) (c1 : Nat) (a2 : Option Addr) (c2 n : Nat), e = .returned (.tuple #[.slice a1 n c1, .slice a2 n c2]) ∧ n ≤ xs.length ∧ Hid (IntsAt w' (.slice a1 n c1) n) ∧ Hid (IntsAt w' (.slice a2 n c2) n) ∧ Below w.heap.size w w' := by
  obtain ⟨i0, hi, hz0', hz1', hz2'⟩ := info_parts Try.info3
  obtain ⟨C, hCs, hmk⟩ := make4 xs.length (by omega) w
  have HC : Hid (BoolRow w.heap.size xs.length (w.alloc (.cells C 4))) := hCs
  clear hCs
  have HS : Hid (StrsAt w a xs) := hS
  have HZ : Hid (∀ i, (xs.getD i ⟨#[]⟩).size ≤ 1048576) := hsz
  clear hS hsz
  go_enter Try.func10, Try.ntmps10
  go_wp2
  go_loopw [5, 19] (fun _ i wr => ∃ k : Nat, k ≤ xs.length ∧ i = .int .i64 k ∧ Hid (BoolRow w.heap.size xs.length wr) ∧ Hid (Below w.heap.size w wr)) (fun _ i _ => xs.length - (intOf i).toNat)
  case atStart => exact ⟨0, Nat.zero_le _, rfl, HC, (Below.refl _ _).alloc (Nat.le_refl _) _⟩
  case round =>
    obtain ⟨k, hk, rfl, HR, HB⟩ := hrel
    clear hmk HC
    by_cases hlt : k < xs.length
    · go_wp2_with fail
      refine Calls.mono (firstAt_any a xs cap k hn hlt wr (HS.out.below HB.out)) ?_
      rintro e w' ⟨rfl, hb⟩
      have HR1 : Hid (BoolRow w.heap.size xs.length w') := HR.out.below hb
      have HB1 : Hid (Below w.heap.size w w') := HB.out.trans (hb.mono HB.out.size)
      clear hb HR HB
      obtain ⟨b0, hb0⟩ := HR1.out.cell hlt
      have hfz := HR1.out.free k
      have hgl : w.heap.size < w'.heap.size := HR1.out.lt
      obtain ⟨fb, hfb⟩ : ∃ fb, firstB xs k = fb := ⟨_, rfl⟩
      rw [hfb]
      have HR2 : Hid (BoolRow w.heap.size xs.length (w'.setCell ⟨w.heap.size, k, none⟩ (.bool fb))) := HR1.out.step k fb
      have HB2 : Hid (Below w.heap.size w (w'.setCell ⟨w.heap.size, k, none⟩ (.bool fb))) := HB1.out.setCell (Nat.le_refl _) _
      clear hfb HR1 HB1
      go_wp2_with fail
      go_roundw
      case rel => exact ⟨k + 1, by omega, by go_num, HR2, HB2⟩
      case measure => simp [intOf]; omega
    · have hkn : k = xs.length := by omega
      subst hkn
      obtain ⟨wb, rfl⟩ : ∃ wb, wb = wr := ⟨_, rfl⟩
      clear hlt hk
      have hgl : w.heap.size < wb.heap.size := HR.out.lt
      have HSr : Hid (StrsAt wb a xs) := HS.out.below HB.out
      clear HS
      go_wp2
      go_loopw [6, 7, 8, 9, 10, 11, 12, 13] (fun v6 v7 v8 v9 _ _ _ _ wq => ∃ (r : Nat) (zs ys : List Value) (l : Int), r ≤ xs.length ∧ v9 = .int .i64 r ∧ v8 = .int .i64 l ∧ -1 ≤ l ∧ l ≤ 1048576 ∧ Hid (Rows2 wb.heap.size wq v6 v7 r zs ys) ∧ Hid (Below wb.heap.size wb wq)) (fun _ _ _ v9 _ _ _ _ _ => xs.length - (intOf v9).toNat)
      case atStart => exact ⟨0, [], [], -1, Nat.zero_le _, rfl, rfl, by omega, by omega, Rows2.nil _ _, Below.refl _ _⟩
      case round =>
        obtain ⟨r, zs, ys, l, hr, rfl, rfl, hl1, hl2, HO, HQ⟩ := hrel
        have HE : Hid (Below w.heap.size w wr) := HB.out.trans (HQ.out.mono HB.out.size)
        have HRq : Hid (BoolRow w.heap.size xs.length wr) := HR.out.below HQ.out
        have HSq : Hid (StrsAt wr a xs) := HSr.out.below HQ.out
        have hgq : w.heap.size < wr.heap.size := HRq.out.lt
        by_cases hlt : r < xs.length
        · go_wp2
          go_loop [10, 11, 37] (fun v10 _ i => ∃ (k : Nat) (z : Int), k ≤ xs.length ∧ i = .int .i64 k ∧ v10 = .int .i64 z ∧ -1 ≤ z ∧ z ≤ 1048576) (fun _ _ i => xs.length - (intOf i).toNat)
          case atStart => exact ⟨0, -1, Nat.zero_le _, rfl, rfl, by omega, by omega⟩
          case round =>
            obtain ⟨k, z, hk, rfl, rfl, hz1, hz2⟩ := hrel
            by_cases hkl : k < xs.length
            · obtain ⟨b, hb⟩ := HRq.out.cell hkl
              obtain ⟨p, off, rfl, hp, hc⟩ := HSq.out k hkl
              obtain ⟨s, hs⟩ : ∃ s, xs.getD k ⟨#[]⟩ = s := ⟨_, rfl⟩
              have hs1 : s.size ≤ 1048576 := hs ▸ HZ.out k
              rw [hs] at hc
              clear hs
              cases b
              · go_wp2
                go_round
                case rel => exact ⟨k + 1, z, by omega, by go_num, rfl, hz1, hz2⟩
                case measure => simp [intOf]; omega
              · go_wp2
                all_goals
                  go_round
                  case rel => exact ⟨k + 1, _, by omega, by go_num, rfl, by omega, by omega⟩
                  case measure => simp [intOf]; omega
            · have hkn : k = xs.length := by omega
              subst hkn
              clear hkl hk
              by_cases hz0 : z < 0
              · obtain ⟨a1, c1, rfl, h1⟩ := IntsAt.own HO.out.ou HO.out.ix
                obtain ⟨a2, c2, rfl, h2⟩ := IntsAt.own HO.out.ov HO.out.iy
                go_wp2
                go_ret2
                refine ⟨a1, c1, a2, c2, r, ?_, hr, IntsAt.own HO.out.ou HO.out.ix, IntsAt.own HO.out.ov HO.out.iy, HE.out⟩
                rfl
              · go_wp2
                go_loop [12, 13, 76] (fun v12 _ i => ∃ (k c : Nat), k ≤ xs.length ∧ i = .int .i64 k ∧ v12 = .int .i64 c ∧ c ≤ k) (fun _ _ i => xs.length - (intOf i).toNat)
                case atStart => exact ⟨0, 0, Nat.zero_le _, rfl, rfl, Nat.le_refl _⟩
                case round =>
                  obtain ⟨k, c, hk, rfl, rfl, hck⟩ := hrel
                  by_cases hkl : k < xs.length
                  · obtain ⟨b, hb⟩ := HRq.out.cell hkl
                    obtain ⟨p, off, rfl, hp, hc⟩ := HSq.out k hkl
                    obtain ⟨s, hs⟩ : ∃ s, xs.getD k ⟨#[]⟩ = s := ⟨_, rfl⟩
                    have hs1 : s.size ≤ 1048576 := hs ▸ HZ.out k
                    rw [hs] at hc
                    clear hs
                    cases b
                    · go_wp2
                      go_round
                      case rel => exact ⟨k + 1, c, by omega, by go_num, rfl, by omega⟩
                      case measure => simp [intOf]; omega
                    · by_cases hsz : (s.size : Int) = z
                      · go_wp2
                        go_round
                        case rel => exact ⟨k + 1, c + 1, by omega, by go_num, by go_num, by omega⟩
                        case measure => simp [intOf]; omega
                      · go_wp2
                        go_round
                        case rel => exact ⟨k + 1, c, by omega, by go_num, rfl, by omega⟩
                        case measure => simp [intOf]; omega
                  · have hkn : k = xs.length := by omega
                    subst hkn
                    clear hkl hk
                    have HOa : Hid ((wr.alloc (.cells #[.int .i64 z] 3)).ownsRow wb.heap.size 3 1 u6 r zs) := HO.out.ou.alloc _
                    have hwz : wb.heap.size ≤ wr.heap.size := HQ.out.size
                    go_wp2_with (at_builtin; refine wpList_append_own_at _ rfl (.tmp 95) (.tmp 97) 29 rfl wb.heap.size 3 i0 _ 1 8 Try.underlying29 hi hz0' hz1' hz2' rfl (by decide) u6 r zs rfl HOa.out ⟨wr.heap.size, 0, none⟩ 1 1 [.int .i64 z] rfl rfl (cell_one_new _ _ _) (int_one z) (by unfold maxLen; omega) (by omega) (by simp; omega) ?_)
                    intro v1 w1 ho1 hg1 _ hb1
                    obtain ⟨hov, hap⟩ := other_kept HO.out.ov HO.out.ap hg1 hb1
                    have HB1 : Hid (Below wb.heap.size wb w1) := (HQ.out.alloc hwz _).grown hg1 (by simp; omega) (own_block HOa.out)
                    have HO1 : Hid (w1.ownsRow wb.heap.size 3 1 v1 (r + 1) (zs ++ [.int .i64 z])) := ho1
                    have HV1 : Hid (w1.ownsRow wb.heap.size 3 1 u7 r ys) := hov
                    have HA1 : Hid (Apart v1 u7) := hap
                    have HI1 : Hid (AllInt (zs ++ [.int .i64 z])) := HO.out.ix.push z
                    have HI2 : Hid (AllInt (ys ++ [.int .i64 (c : Int)])) := HO.out.iy.push c
                    have hwz1 : wb.heap.size ≤ w1.heap.size := HB1.out.size
                    have HOb : Hid ((w1.alloc (.cells #[.int .i64 (c : Int)] 3)).ownsRow wb.heap.size 3 1 u7 r ys) := HV1.out.alloc _
                    clear ho1 hov hap hg1 hb1 HOa HO HE HRq HSq hgq hwz
                    go_wp2_with (at_builtin; refine wpList_append_own_at _ rfl (.tmp 99) (.tmp 101) 29 rfl wb.heap.size 3 i0 _ 1 8 Try.underlying29 hi hz0' hz1' hz2' rfl (by decide) u7 r ys rfl HOb.out ⟨w1.heap.size, 0, none⟩ 1 1 [.int .i64 (c : Int)] rfl rfl (cell_one_new _ _ _) (int_one _) (by unfold maxLen; omega) (by omega) (by simp; omega) ?_)
                    intro v2 w2 ho2 hg2 _ hb2
                    obtain ⟨hou, hap⟩ := other_kept HO1.out HA1.out.symm hg2 hb2
                    have HB2 : Hid (Below wb.heap.size wb w2) := (HB1.out.alloc hwz1 _).grown hg2 (by simp; omega) (own_block HOb.out)
                    have HO2 : Hid (Rows2 wb.heap.size w2 v1 v2 (r + 1) (zs ++ [.int .i64 z]) (ys ++ [.int .i64 (c : Int)])) := ⟨hou, ho2, hap.symm, HI1.out, HI2.out⟩
                    clear ho2 hou hap hg2 hb2 HOb HO1 HV1 HA1 HI1 HI2 HB1 hwz1
                    go_wp2_with fail
                    go_roundw
                    case rel => exact ⟨r + 1, _, _, z, by omega, by go_num, rfl, by omega, by omega, HO2, HB2⟩
                    case measure => simp [intOf]; omega
        · obtain ⟨a1, c1, rfl, h1⟩ := IntsAt.own HO.out.ou HO.out.ix
          obtain ⟨a2, c2, rfl, h2⟩ := IntsAt.own HO.out.ov HO.out.iy
          go_wp2
          go_ret2
          refine ⟨a1, c1, a2, c2, r, ?_, hr, IntsAt.own HO.out.ou HO.out.ix, IntsAt.own HO.out.ov HO.out.iy, HE.out⟩
          rfl
end Go.Proofs.Qxb6616426a
