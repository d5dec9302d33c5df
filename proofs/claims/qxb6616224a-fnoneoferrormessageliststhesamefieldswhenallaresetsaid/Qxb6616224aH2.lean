/-
  THE WALK of Enumerate.
-/
import Derived.Test.Qxb6616224aH1
import Derived.Test.Qxb6616224aShelf
import Derived.Deep.RegionWith
import Derived.ShutString
namespace Go.Proofs.Qxb6616224a
open Go.RowKit

/-- strings.Join at the strings behind a slice. -/
theorem join_any (w W : World) (b off n c : Nat) (ys : List ByteArray) (sep : ByteArray) (hn : ys.length = n) (hc : n ≤ c) (hb : b < w.heap.size) (hB : Below w.heap.size w W)
    (hcells : ∀ (j : Nat) x, ys[j]? = some x → w.cell? ⟨b, off + j, none⟩ = some (.string x)) (hN : n ≤ 1048576) (hlen : (Lib.join (lists ys) sep.data.toList).length ≤ 1099549900800) :
    Calls Try.prog 13 #[.slice (some ⟨b, off, none⟩) n c, .string sep] W fun e w' => ∃ J : ByteArray, e = .returned (.string J) ∧ J.size ≤ 1099549900800 ∧ Hid (J.data.toList = Lib.join (lists ys) sep.data.toList) ∧ Below w.heap.size w w' := by
  subst hn
  refine (Try.strings_Join b off c ys sep W (fun j x h => by rw [hB.cell (by exact hb)]; exact hcells j x h) (Nat.lt_of_lt_of_le hb hB.size) (by omega) hc (by have : (Lib.join (ys.map (·.data.toList)) sep.data.toList).length ≤ 1099549900800 := hlen; omega)).mono ?_
  rintro e w' ⟨rfl, h⟩
  exact ⟨_, rfl, by rw [size_of_list]; exact hlen, rfl, hB.trans (h.mono hB.size)⟩

theorem cat_list (a b : ByteArray) : (a ++ b).data.toList = a.data.toList ++ b.data.toList := by simp [ByteArray.data_append]
theorem enum_size {J cj x : ByteArray} (hJ : J.size ≤ 1099549900800) (hcj : cj.size ≤ 16) (hx : x.size ≤ 1048576) : (J ++ ⟨#[32]⟩ ++ cj ++ ⟨#[32]⟩ ++ x).size ≤ 1099559900800 := by
  have e : (⟨#[32]⟩ : ByteArray).size = 1 := rfl
  simp only [ByteArray.size_append, e]
  omega
theorem enum_text {J cj x : ByteArray} {j t : List UInt8} (hJ : J.data.toList = j) (ht : t = j ++ [32] ++ cj.data.toList ++ [32] ++ x.data.toList) : (J ++ ⟨#[32]⟩ ++ cj ++ ⟨#[32]⟩ ++ x).data.toList = t := by
  rw [cat_list, cat_list, cat_list, cat_list, hJ, ht]

set_option maxRecDepth 4000 in
set_option maxHeartbeats 1600000 in
theorem enum_any (a : Option Addr) (xs : List ByteArray) (cap : Nat) (cj : ByteArray) (hcap : xs.length ≤ cap) (h1 : 0 < xs.length) (hcj : cj.size ≤ 16) (hsm : Small (lists xs)) (w : World) (hS : StrsAt w a xs) :
    Calls Try.prog 12 #[.slice a xs.length cap, .string cj] w fun e w' => ∃ E : ByteArray, e = .returned (.string E) ∧ E.size ≤ 1099559900800 ∧ Hid (E.data.toList = enumT (lists xs) cj.data.toList) ∧ Below w.heap.size w w' := by
  have hn : xs.length ≤ 1048576 := by have := hsm.1; rw [lists_len] at this; exact this
  have hxs : ∀ i, (xs.getD i ⟨#[]⟩).size ≤ 1048576 := fun i => by
    have := hsm.2 i
    rw [lists_getD] at this
    simpa using this
  by_cases h2 : xs.length = 1
  · obtain ⟨b, off, rfl, hb, hc⟩ := hS 0 (by omega)
    have hx0 := hxs 0
    have HE : Hid (enumT (lists xs) cj.data.toList = (xs.getD 0 ⟨#[]⟩).data.toList) := by rw [Hid, enumT, if_pos (by rw [lists_len]; exact h2), lists_getD]
    obtain ⟨x, hx⟩ : ∃ x, xs.getD 0 ⟨#[]⟩ = x := ⟨_, rfl⟩
    rw [hx] at hc hx0 HE
    have hc0 : w.cell? ⟨b, off, none⟩ = some (.string x) := hc
    clear hS hsm hxs hx hc
    go_enter Try.func12, Try.ntmps12
    go_wp2
    go_ret
    exact ⟨x, rfl, by omega, HE.out.symm, Below.refl _ _⟩
  · obtain ⟨k, hk⟩ : ∃ k, xs.length = k + 1 := ⟨xs.length - 1, by omega⟩
    have hj : upTo xs.length cj.data.toList (lists xs) k = Lib.join ((lists xs).take k) [44, 32] := upTo_join _ _ _ (lists_len xs).symm k (by omega) (by omega)
    have hlen := upTo_len xs.length cj.data.toList (lists xs) hsm (by simpa using hcj) k
    rw [hj] at hlen
    have htk : (lists xs).take k = lists (xs.take k) := by simp [lists, List.map_take]
    have HE : Hid (enumT (lists xs) cj.data.toList = Lib.join (lists (xs.take k)) [44, 32] ++ [32] ++ cj.data.toList ++ [32] ++ (xs.getD k ⟨#[]⟩).data.toList) := by
      rw [Hid, enumT, if_neg (by rw [lists_len]; exact h2), lists_len, hk, Nat.add_sub_cancel, lists_getD, htk]
    rw [htk] at hlen
    obtain ⟨b, off, rfl, hb, hc⟩ := hS k (by omega)
    have hx0 := hxs k
    obtain ⟨x, hx⟩ : ∃ x, xs.getD k ⟨#[]⟩ = x := ⟨_, rfl⟩
    rw [hx] at hc hx0 HE
    have HC : Hid (∀ (j : Nat) y, (xs.take k)[j]? = some y → w.cell? ⟨b, off + j, none⟩ = some (.string y)) := by
      intro j y hy
      have hjl := (List.getElem?_eq_some_iff.1 hy).1
      rw [List.length_take] at hjl
      obtain ⟨b', off', e, _, hc'⟩ := hS j (by omega)
      cases e
      rw [hc']
      rw [List.getElem?_take, if_pos (by omega)] at hy
      rw [List.getD_eq_getElem?_getD, hy]
      rfl
    have hk2 : k ≤ 1048576 := by omega
    have HLn : Hid ((Lib.join (lists (xs.take k)) [44, 32]).length ≤ 1099549900800) := by show _ ≤ _; omega
    have HT : Hid ((xs.take k).length = k) := by rw [Hid, List.length_take]; omega
    have hk0 : 0 < k := by omega
    have hkc : k ≤ cap := by omega
    have HB : Hid (Below w.heap.size w w) := Below.refl _ _
    clear hS hsm hxs hx hj hlen htk h2 h1 hn hcap
    rw [hk]
    clear hk
    go_enter Try.func12, Try.ntmps12
    have HX : Hid (w.cell? ⟨b, off + k, none⟩ = some (.string x)) := hc
    go_upto_region 4 with fail
    go_region_with (go_at_call 13; refine Calls.mono (join_any w _ b off k cap (xs.take k) ⟨#[44, 32]⟩ HT.out hkc hb ?_ HC.out hk2 HLn.out) ?_; exact (by first | exact Below.refl _ _ | exact (Below.refl _ _).drew); (rintro e w' ⟨J, rfl, hJ, HJ, hB'⟩; have hcJ : w'.cell? ⟨b, off + k, none⟩ = some (.string x) := (hB'.cell (by exact hb)).trans HX.out))
    all_goals
      go_wp2_with fail
      go_ret
      refine ⟨_, rfl, enum_size hJ hcj hx0, ?_, ?_⟩
      · exact enum_text HJ.out HE.out
      · first | exact hB' | exact hB'.drew | exact below_drewN hB' _
end Go.Proofs.Qxb6616224a
