/-
  THE WALK of zzSelectionLen.
-/
import Derived.Test.Qxb6616426aI8
namespace Go.Proofs.Qxb6616426a
open Go.RowKit

set_option maxRecDepth 100000 in
set_option maxHeartbeats 1600000 in
theorem zzsel_any (a b : Option Addr) (xs ys : List ByteArray) (ca cb : Nat) (hx : xs.length ≤ 1048577) (hy : ys.length ≤ 1048577) (w : World) (hX : StrsAt w a xs) (hY : StrsAt w b ys) (hzx : ∀ i, (xs.getD i ⟨#[]⟩).size ≤ 1048576) (hzy : ∀ i, (ys.getD i ⟨#[]⟩).size ≤ 1048576) :
    Calls Try.prog 6 #[.slice a xs.length ca, .slice b ys.length cb] w fun e w' => e = .returned (.int .i64 ((dists xs + dists ys : Nat) : Int)) ∧ Below w.heap.size w w' := by
  have HX : Hid (StrsAt w a xs) := hX
  have HY : Hid (StrsAt w b ys) := hY
  have HZX : Hid (∀ i, (xs.getD i ⟨#[]⟩).size ≤ 1048576) := hzx
  have HZY : Hid (∀ i, (ys.getD i ⟨#[]⟩).size ≤ 1048576) := hzy
  clear hX hY hzx hzy
  go_enter Try.func6, Try.ntmps6
  go_wp2_with fail
  refine Calls.mono (prefix_any b ys cb hy w HY.out HZY.out) ?_
  rintro e w1 ⟨a1, c1, a2, c2, n, rfl, hn, I1, I2, hb⟩
  have HB1 : Hid (Below w.heap.size w w1) := hb
  clear hb
  have HX1 : Hid (StrsAt w1 a xs) := HX.out.below HB1.out
  have HY1 : Hid (StrsAt w1 b ys) := HY.out.below HB1.out
  clear HX HY
  go_wp2_with fail
  refine Calls.mono (set_any a xs ca hx HZX.out w1 HX1.out) ?_
  rintro e w2 ⟨rfl, S1, hb⟩
  have HB2 : Hid (Below w1.heap.size w1 w2) := hb
  clear hb HX1
  have HY2 : Hid (StrsAt w2 b ys) := HY1.out.below HB2.out
  clear HY1
  go_wp2_with fail
  refine Calls.mono (set_any b ys cb hy HZY.out w2 HY2.out) ?_
  rintro e w3 ⟨rfl, S2, hb⟩
  have HB3 : Hid (Below w2.heap.size w2 w3) := hb
  clear hb HY2
  have HB23 : Hid (Below w1.heap.size w1 w3) := HB2.out.trans (HB3.out.mono HB2.out.size)
  have HB13 : Hid (Below w.heap.size w w3) := HB1.out.trans (HB23.out.mono HB1.out.size)
  go_wp2_with fail
  refine Calls.mono (sel_any w1.heap.size w2.heap.size xs ys hx hy a1 a2 n c1 c2 (by omega) w3 (S1.out.below HB3.out) S2.out (I1.out.below HB23.out) (I2.out.below HB23.out)) ?_
  rintro e w4 ⟨rfl, hb⟩
  have HB4 : Hid (Below w.heap.size w w4) := HB13.out.trans (hb.mono HB13.out.size)
  clear hb
  go_wp2_with fail
  go_ret
  exact ⟨rfl, HB4.out⟩
end Go.Proofs.Qxb6616426a
