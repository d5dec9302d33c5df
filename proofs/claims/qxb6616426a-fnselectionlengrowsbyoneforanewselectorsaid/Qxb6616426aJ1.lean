/-
  THE WALK of the law.
-/
import Derived.Test.Qxb6616426aJ0
namespace Go.Proofs.Qxb6616426a
open Go.RowKit

set_option maxRecDepth 100000 in
set_option maxHeartbeats 4000000 in
theorem law_walk (a b : Option Addr) (xs ys : List ByteArray) (ca cb : Nat) (p : ByteArray) (q : Bool) (w : World) (hp : p.size ≤ maxLen) (hxl : xs.length ≤ maxLen) (hyl : ys.length ≤ maxLen) (hX : StrsAt w a xs) (hY : StrsAt w b ys) :
    Calls Try.prog 3 #[.slice a xs.length ca, .slice b ys.length cb, .string p, .bool q] w fun e w' => e = .returned (.bool true) ∧ Below w.heap.size w w' := by
  have HX : Hid (StrsAt w a xs) := hX
  have HY : Hid (StrsAt w b ys) := hY
  clear hX hY
  go_enter Try.func3, Try.ntmps3
  go_wp2_with fail
  refine Calls.mono (bytes4 a xs ca b ys cb p (.bool q) w hp hxl hyl HX.out HY.out) ?_
  rintro e w0 ⟨hor, rfl⟩
  rcases hor with rfl | ⟨rfl, P⟩
  · go_wp2_with fail
    go_ret
    exact ⟨rfl, Below.refl _ _⟩
  have HP : Hid (In4 xs ys p) := P
  have HZX : Hid (∀ i, (xs.getD i ⟨#[]⟩).size ≤ 1048576) := small_all P.x
  have HZY : Hid (∀ i, (ys.getD i ⟨#[]⟩).size ≤ 1048576) := small_all P.y
  have hp1 := P.p
  clear P hp hxl hyl
  by_cases h1 : xs.length ≤ 4096
  case neg =>
    have := HP.out.lx
    go_wp2_with fail
    go_ret
    exact ⟨rfl, Below.refl _ _⟩
  by_cases h2 : ys.length ≤ 4096
  case neg =>
    have := HP.out.ly
    go_wp2_with fail
    go_ret
    exact ⟨rfl, Below.refl _ _⟩
  obtain ⟨D1, hD1⟩ : ∃ D1, dists xs = D1 := ⟨_, rfl⟩
  obtain ⟨D2, hD2⟩ : ∃ D2, dists ys = D2 := ⟨_, rfl⟩
  have hl1 : D1 ≤ 4096 := by have := dists_le xs; omega
  have hl2 : D2 ≤ 4096 := by have := dists_le ys; omega
  have HD1 : Hid (dists xs = D1) := hD1
  have HD2 : Hid (dists ys = D2) := hD2
  clear hD1 hD2
  go_wp2_with fail
  refine Calls.mono (add_any p.size (by omega) a xs ca (by omega) HP.out.x w HX.out) ?_
  rintro e w0 ⟨⟨n1, rfl, hn1⟩, rfl⟩
  go_wp2_with fail
  refine Calls.mono (add_any n1 hn1 b ys cb (by omega) HP.out.y w HY.out) ?_
  rintro e w0 ⟨⟨n2, rfl, hn2⟩, rfl⟩
  by_cases h3 : n2 ≤ 1048576
  case neg =>
    go_wp2_with fail
    go_ret
    exact ⟨rfl, Below.refl _ _⟩
  clear hn1 hn2
  go_wp2_with fail
  refine Calls.mono (zzsel_n a b xs ys _ _ (D1 + D2) ca cb rfl rfl (by rw [HD1.out, HD2.out]) (by omega) (by omega) w HX.out HY.out HZX.out HZY.out) ?_
  rintro e w1 ⟨rfl, hb⟩
  have HB1 : Hid (Below w.heap.size w w1) := hb
  clear hb
  have HX1 : Hid (StrsAt w1 a xs) := HX.out.below HB1.out
  have HY1 : Hid (StrsAt w1 b ys) := HY.out.below HB1.out
  clear HX HY
  cases q
  · go_wp2_with fail
    refine Calls.mono (contains_any a xs ca p (by omega) w1 HX1.out) ?_
    rintro e w0 ⟨hor, rfl⟩
    rcases hor with ⟨rfl, hseen⟩ | ⟨rfl, hseen⟩
    · have HS : Hid (seen xs xs.length p) := hseen
      clear hseen
      go_wp2_with fail
      refine Calls.mono (with_any a xs ca p (by omega) w1 HX1.out) ?_
      rintro e w2 ⟨g, rfl, HN, hb⟩
      have HB2 : Hid (Below w1.heap.size w1 w2) := hb
      clear hb
      have HX2 : Hid (StrsAt w2 a xs) := HX1.out.below HB2.out
      have HY2 : Hid (StrsAt w2 b ys) := HY1.out.below HB2.out
      go_wp2_with fail
      refine Calls.mono (zzsel_n (some ⟨g, 0, none⟩) b (xs ++ [p]) ys _ _ (D1 + D2) _ cb (by simp) rfl (by rw [dists_seen HS.out, HD1.out, HD2.out]) (by omega) (by omega) w2 HN.out HY2.out (small_app HZX.out hp1) HZY.out) ?_
      rintro e w3 ⟨rfl, hb⟩
      have HB3 : Hid (Below w2.heap.size w2 w3) := hb
      clear hb
      have HX3 : Hid (StrsAt w3 a xs) := HX2.out.below HB3.out
      have HY3 : Hid (StrsAt w3 b ys) := HY2.out.below HB3.out
      have HW3 : Hid (Below w.heap.size w w3) := (HB1.out.trans (HB2.out.mono HB1.out.size)).trans (HB3.out.mono (Nat.le_trans HB1.out.size HB2.out.size))
      clear HX2 HY2 HN HS
      go_wp2_with fail
      refine Calls.mono (distinct_n a xs D1 ca HD1.out (by omega) w3 HX3.out) ?_
      rintro e w4 ⟨rfl, hb⟩
      have HB4 : Hid (Below w3.heap.size w3 w4) := hb
      clear hb
      have HY4 : Hid (StrsAt w4 b ys) := HY3.out.below HB4.out
      go_wp2_with fail
      refine Calls.mono (distinct_n b ys D2 cb HD2.out (by omega) w4 HY4.out) ?_
      rintro e w5 ⟨rfl, hb⟩
      have HW5 : Hid (Below w.heap.size w w5) := HW3.out.trans ((HB4.out.trans (hb.mono HB4.out.size)).mono HW3.out.size)
      clear hb
      go_wp2_with fail
      go_ret
      exact ⟨rfl, HW5.out⟩
    · have HS : Hid (¬ seen xs xs.length p) := hseen
      clear hseen
      go_wp2_with fail
      refine Calls.mono (with_any a xs ca p (by omega) w1 HX1.out) ?_
      rintro e w2 ⟨g, rfl, HN, hb⟩
      have HB2 : Hid (Below w1.heap.size w1 w2) := hb
      clear hb
      have HX2 : Hid (StrsAt w2 a xs) := HX1.out.below HB2.out
      have HY2 : Hid (StrsAt w2 b ys) := HY1.out.below HB2.out
      go_wp2_with fail
      refine Calls.mono (zzsel_n (some ⟨g, 0, none⟩) b (xs ++ [p]) ys _ _ (D1 + D2 + 1) _ cb (by simp) rfl (by rw [dists_new HS.out, HD1.out, HD2.out]; omega) (by omega) (by omega) w2 HN.out HY2.out (small_app HZX.out hp1) HZY.out) ?_
      rintro e w3 ⟨rfl, hb⟩
      have HB3 : Hid (Below w2.heap.size w2 w3) := hb
      clear hb
      have HX3 : Hid (StrsAt w3 a xs) := HX2.out.below HB3.out
      have HY3 : Hid (StrsAt w3 b ys) := HY2.out.below HB3.out
      have HW3 : Hid (Below w.heap.size w w3) := (HB1.out.trans (HB2.out.mono HB1.out.size)).trans (HB3.out.mono (Nat.le_trans HB1.out.size HB2.out.size))
      clear HX2 HY2 HN HS
      go_wp2_with fail
      refine Calls.mono (distinct_n a xs D1 ca HD1.out (by omega) w3 HX3.out) ?_
      rintro e w4 ⟨rfl, hb⟩
      have HB4 : Hid (Below w3.heap.size w3 w4) := hb
      clear hb
      have HY4 : Hid (StrsAt w4 b ys) := HY3.out.below HB4.out
      go_wp2_with fail
      refine Calls.mono (distinct_n b ys D2 cb HD2.out (by omega) w4 HY4.out) ?_
      rintro e w5 ⟨rfl, hb⟩
      have HW5 : Hid (Below w.heap.size w w5) := HW3.out.trans ((HB4.out.trans (hb.mono HB4.out.size)).mono HW3.out.size)
      clear hb
      go_wp2_with fail
      go_ret
      exact ⟨rfl, HW5.out⟩
  · go_wp2_with fail
    refine Calls.mono (contains_any b ys cb p (by omega) w1 HY1.out) ?_
    rintro e w0 ⟨hor, rfl⟩
    rcases hor with ⟨rfl, hseen⟩ | ⟨rfl, hseen⟩
    · have HS : Hid (seen ys ys.length p) := hseen
      clear hseen
      go_wp2_with fail
      refine Calls.mono (with_any b ys cb p (by omega) w1 HY1.out) ?_
      rintro e w2 ⟨g, rfl, HN, hb⟩
      have HB2 : Hid (Below w1.heap.size w1 w2) := hb
      clear hb
      have HX2 : Hid (StrsAt w2 a xs) := HX1.out.below HB2.out
      have HY2 : Hid (StrsAt w2 b ys) := HY1.out.below HB2.out
      go_wp2_with fail
      refine Calls.mono (zzsel_n a (some ⟨g, 0, none⟩) xs (ys ++ [p]) _ _ (D1 + D2) ca _ rfl (by simp) (by rw [dists_seen HS.out, HD1.out, HD2.out]) (by omega) (by omega) w2 HX2.out HN.out HZX.out (small_app HZY.out hp1)) ?_
      rintro e w3 ⟨rfl, hb⟩
      have HB3 : Hid (Below w2.heap.size w2 w3) := hb
      clear hb
      have HX3 : Hid (StrsAt w3 a xs) := HX2.out.below HB3.out
      have HY3 : Hid (StrsAt w3 b ys) := HY2.out.below HB3.out
      have HW3 : Hid (Below w.heap.size w w3) := (HB1.out.trans (HB2.out.mono HB1.out.size)).trans (HB3.out.mono (Nat.le_trans HB1.out.size HB2.out.size))
      clear HX2 HY2 HN HS
      go_wp2_with fail
      refine Calls.mono (distinct_n a xs D1 ca HD1.out (by omega) w3 HX3.out) ?_
      rintro e w4 ⟨rfl, hb⟩
      have HB4 : Hid (Below w3.heap.size w3 w4) := hb
      clear hb
      have HY4 : Hid (StrsAt w4 b ys) := HY3.out.below HB4.out
      go_wp2_with fail
      refine Calls.mono (distinct_n b ys D2 cb HD2.out (by omega) w4 HY4.out) ?_
      rintro e w5 ⟨rfl, hb⟩
      have HW5 : Hid (Below w.heap.size w w5) := HW3.out.trans ((HB4.out.trans (hb.mono HB4.out.size)).mono HW3.out.size)
      clear hb
      go_wp2_with fail
      go_ret
      exact ⟨rfl, HW5.out⟩
    · have HS : Hid (¬ seen ys ys.length p) := hseen
      clear hseen
      go_wp2_with fail
      refine Calls.mono (with_any b ys cb p (by omega) w1 HY1.out) ?_
      rintro e w2 ⟨g, rfl, HN, hb⟩
      have HB2 : Hid (Below w1.heap.size w1 w2) := hb
      clear hb
      have HX2 : Hid (StrsAt w2 a xs) := HX1.out.below HB2.out
      have HY2 : Hid (StrsAt w2 b ys) := HY1.out.below HB2.out
      go_wp2_with fail
      refine Calls.mono (zzsel_n a (some ⟨g, 0, none⟩) xs (ys ++ [p]) _ _ (D1 + D2 + 1) ca _ rfl (by simp) (by rw [dists_new HS.out, HD1.out, HD2.out]; omega) (by omega) (by omega) w2 HX2.out HN.out HZX.out (small_app HZY.out hp1)) ?_
      rintro e w3 ⟨rfl, hb⟩
      have HB3 : Hid (Below w2.heap.size w2 w3) := hb
      clear hb
      have HX3 : Hid (StrsAt w3 a xs) := HX2.out.below HB3.out
      have HY3 : Hid (StrsAt w3 b ys) := HY2.out.below HB3.out
      have HW3 : Hid (Below w.heap.size w w3) := (HB1.out.trans (HB2.out.mono HB1.out.size)).trans (HB3.out.mono (Nat.le_trans HB1.out.size HB2.out.size))
      clear HX2 HY2 HN HS
      go_wp2_with fail
      refine Calls.mono (distinct_n a xs D1 ca HD1.out (by omega) w3 HX3.out) ?_
      rintro e w4 ⟨rfl, hb⟩
      have HB4 : Hid (Below w3.heap.size w3 w4) := hb
      clear hb
      have HY4 : Hid (StrsAt w4 b ys) := HY3.out.below HB4.out
      go_wp2_with fail
      refine Calls.mono (distinct_n b ys D2 cb HD2.out (by omega) w4 HY4.out) ?_
      rintro e w5 ⟨rfl, hb⟩
      have HW5 : Hid (Below w.heap.size w w5) := HW3.out.trans ((HB4.out.trans (hb.mono HB4.out.size)).mono HW3.out.size)
      clear hb
      go_wp2_with fail
      go_ret
      exact ⟨rfl, HW5.out⟩
end Go.Proofs.Qxb6616426a
