/-
  What the slices read as; THE WALKS of selectorsOK and tolerationsOK.
-/
import Derived.Test.Qxb6616224aFmtF1
namespace Go.Proofs.Qxb6616224aFmt
open Go.RowKit Go.Extern.Stop Go.Stop Go.Extern
attribute [local go_sem] call17 guard17 f0 f0r f1 f1r f2 f2r f3 f3r f4 f4r f5 f5r f6 f6r op3_100 op9_115 op9_113

/-! ### What the slices read as -/
/-- A cell that holds a selector's pointer: nil, or to a string. -/
def SelAt (w : World) (c : Value) (s : Option ByteArray) : Prop :=
  (s = none ∧ c = .pointer none) ∨ ∃ pb po e, s = some e ∧ c = .pointer (some ⟨pb, po, none⟩) ∧ pb < w.heap.size ∧ w.cell? ⟨pb, po, none⟩ = some (.string e)
def SelsAt (w : World) (a : Option Addr) (S : List (Option ByteArray)) : Prop :=
  ∀ i, i < S.length → ∃ b off c, a = some ⟨b, off, none⟩ ∧ b < w.heap.size ∧ w.cell? ⟨b, off + i, none⟩ = some c ∧ SelAt w c (S.getD i none)

structure TolP where
  k : ByteArray
  o : ByteArray
  v : ByteArray
  e : ByteArray
def tolZ : TolP := ⟨⟨#[]⟩, ⟨#[]⟩, ⟨#[]⟩, ⟨#[]⟩⟩
/-- A cell that holds a pointer to an int64, perhaps nil. -/
def SecAt (w : World) (c : Value) : Prop := c = .pointer none ∨ ∃ pb po x, c = .pointer (some ⟨pb, po, none⟩) ∧ pb < w.heap.size ∧ w.cell? ⟨pb, po, none⟩ = some (.int .i64 x)
structure TolAt (w : World) (b off : Nat) (t : TolP) : Prop where
  c0 : w.cell? ⟨b, off, none⟩ = some (.string t.k)
  c1 : w.cell? ⟨b, off + 1, none⟩ = some (.string t.o)
  c2 : w.cell? ⟨b, off + 2, none⟩ = some (.string t.v)
  c3 : w.cell? ⟨b, off + 3, none⟩ = some (.string t.e)
  c4 : ∃ c, w.cell? ⟨b, off + 4, none⟩ = some c ∧ SecAt w c
def TolsAt (w : World) (a : Option Addr) (L : List TolP) : Prop :=
  ∀ i, i < L.length → ∃ b off, a = some ⟨b, off, none⟩ ∧ b < w.heap.size ∧ TolAt w b (off + i * 5) (L.getD i tolZ)

theorem SelAt.below {w w' : World} {c : Value} {s : Option ByteArray} (h : SelAt w c s) (hb : Below w.heap.size w w') : SelAt w' c s := by
  rcases h with h | ⟨pb, po, e, h1, h2, h3, h4⟩
  · exact .inl h
  · exact .inr ⟨pb, po, e, h1, h2, Nat.lt_of_lt_of_le h3 hb.size, by rw [hb.cell (by exact h3)]; exact h4⟩
theorem SelsAt.below {w w' : World} {a : Option Addr} {S : List (Option ByteArray)} (h : SelsAt w a S) (hb : Below w.heap.size w w') : SelsAt w' a S := by
  intro i hi
  obtain ⟨b, off, c, h1, h2, h3, h4⟩ := h i hi
  exact ⟨b, off, c, h1, Nat.lt_of_lt_of_le h2 hb.size, by rw [hb.cell (by exact h2)]; exact h3, h4.below hb⟩
theorem SecAt.below {w w' : World} {c : Value} (h : SecAt w c) (hb : Below w.heap.size w w') : SecAt w' c := by
  rcases h with h | ⟨pb, po, x, h2, h3, h4⟩
  · exact .inl h
  · exact .inr ⟨pb, po, x, h2, Nat.lt_of_lt_of_le h3 hb.size, by rw [hb.cell (by exact h3)]; exact h4⟩
theorem TolAt.below {w w' : World} {b off : Nat} {t : TolP} (h : TolAt w b off t) (hlt : b < w.heap.size) (hb : Below w.heap.size w w') : TolAt w' b off t := by
  obtain ⟨c, hc, hs⟩ := h.c4
  exact ⟨by rw [hb.cell (by exact hlt)]; exact h.c0, by rw [hb.cell (by exact hlt)]; exact h.c1, by rw [hb.cell (by exact hlt)]; exact h.c2, by rw [hb.cell (by exact hlt)]; exact h.c3, c, by rw [hb.cell (by exact hlt)]; exact hc, hs.below hb⟩
theorem TolsAt.below {w w' : World} {a : Option Addr} {L : List TolP} (h : TolsAt w a L) (hb : Below w.heap.size w w') : TolsAt w' a L := by
  intro i hi
  obtain ⟨b, off, h1, h2, h3⟩ := h i hi
  exact ⟨b, off, h1, Nat.lt_of_lt_of_le h2 hb.size, h3.below h2 hb⟩

/-! ### The two verdicts -/
def sel1 (s : Option ByteArray) : Bool := match s with
  | none => false
  | some e => decide (e.size ≤ 10240)
def selsB (S : List (Option ByteArray)) : Bool := decide (S.length ≤ 32) && S.all sel1
def tol1 (t : TolP) : Bool := tolB t.k t.o t.v t.e
def tolsB (L : List TolP) : Bool := decide (L.length ≤ 16) && L.all tol1

theorem selsB_long {S : List (Option ByteArray)} (h : ¬ S.length ≤ 32) : selsB S = false := by simp [selsB, h]
theorem selsB_bad {S : List (Option ByteArray)} {i : Nat} (h : i < S.length) (hb : sel1 (S.getD i none) = false) : selsB S = false := by
  unfold selsB
  rw [Bool.and_eq_false_iff]
  right
  rw [List.all_eq_false]
  exact ⟨S.getD i none, by simp [List.getD_eq_getElem?_getD, h], by rw [hb]; decide⟩
theorem selsB_good {S : List (Option ByteArray)} (h : S.length ≤ 32) (ha : ∀ i, i < S.length → sel1 (S.getD i none) = true) : selsB S = true := by
  unfold selsB
  rw [Bool.and_eq_true]
  refine ⟨by simp [h], ?_⟩
  rw [List.all_eq_true]
  intro s hs
  obtain ⟨i, hi, rfl⟩ := List.getElem_of_mem hs
  have := ha i hi
  simpa [List.getD_eq_getElem?_getD, hi] using this
theorem tolsB_long {L : List TolP} (h : ¬ L.length ≤ 16) : tolsB L = false := by simp [tolsB, h]
theorem tolsB_bad {L : List TolP} {i : Nat} (h : i < L.length) (hb : tol1 (L.getD i tolZ) = false) : tolsB L = false := by
  unfold tolsB
  rw [Bool.and_eq_false_iff]
  right
  rw [List.all_eq_false]
  exact ⟨L.getD i tolZ, by simp [List.getD_eq_getElem?_getD, h], by rw [hb]; decide⟩
theorem tolsB_good {L : List TolP} (h : L.length ≤ 16) (ha : ∀ i, i < L.length → tol1 (L.getD i tolZ) = true) : tolsB L = true := by
  unfold tolsB
  rw [Bool.and_eq_true]
  refine ⟨by simp [h], ?_⟩
  rw [List.all_eq_true]
  intro s hs
  obtain ⟨i, hi, rfl⟩ := List.getElem_of_mem hs
  have := ha i hi
  simpa [List.getD_eq_getElem?_getD, hi] using this

/-- What holds of all before k and of k holds of all before k + 1. -/
theorem upto_succ {P : Nat → Prop} {k : Nat} (h : ∀ j, j < k → P j) (hk : P k) : ∀ j, j < k + 1 → P j := by
  intro j hj
  by_cases e : j = k
  · subst e; exact hk
  · exact h j (by omega)

set_option maxRecDepth 4000 in
set_option maxHeartbeats 800000 in
theorem selsOK_any (a : Option Addr) (S : List (Option ByteArray)) (cap : Nat) (hn : S.length ≤ 1073741824) (w : World) (hS : SelsAt w a S) :
    Calls Tryf.prog 9 #[.slice a S.length cap] w fun x w' => x = .returned (.bool (selsB S)) ∧ w = w' := by
  by_cases hl : S.length ≤ 32
  · go_enter Tryf.func9, Tryf.ntmps9
    go_wp2
    go_loop [3] (fun i => ∃ k : Nat, k ≤ S.length ∧ i = .int .i64 k ∧ Hid (∀ j, j < k → sel1 (S.getD j none) = true)) (fun i => S.length - (intOf i).toNat)
    case atStart => exact ⟨0, Nat.zero_le _, rfl, fun j hj => absurd hj (by omega)⟩
    case round =>
      obtain ⟨k, hk, rfl, HA⟩ := hrel
      by_cases hlt : k < S.length
      · obtain ⟨b, off, c, rfl, hb, hc, hsel⟩ := hS k hlt
        obtain ⟨s, hs⟩ : ∃ s, S.getD k none = s := ⟨_, rfl⟩
        rw [hs] at hsel
        rcases hsel with ⟨rfl, rfl⟩ | ⟨pb, po, e, rfl, rfl, hpb, hpc⟩
        · have HN : Hid (selsB S = false) := selsB_bad hlt (by rw [hs]; rfl)
          clear hs hS
          go_wp2
          go_ret
          exact ⟨ret_bool HN.out.symm, rfl⟩
        · by_cases he : e.size ≤ 10240
          · have HN : Hid (∀ j, j < k + 1 → sel1 (S.getD j none) = true) := upto_succ HA.out (by rw [hs]; simp [sel1, he])
            clear hs hS
            go_wp2
            go_round
            case rel => exact ⟨k + 1, by omega, by go_num, HN⟩
            case measure => simp [intOf]; omega
          · have HN : Hid (selsB S = false) := selsB_bad hlt (by rw [hs]; simp [sel1, he])
            clear hs hS
            go_wp2
            go_ret
            exact ⟨ret_bool HN.out.symm, rfl⟩
      · have hkS : k = S.length := by omega
        subst hkS
        have HN : Hid (selsB S = true) := selsB_good hl HA.out
        go_wp2
        go_ret
        exact ⟨ret_bool HN.out.symm, rfl⟩
  · have HN : Hid (selsB S = false) := selsB_long hl
    go_enter Tryf.func9, Tryf.ntmps9
    go_wp2
    go_ret
    exact ⟨ret_bool HN.out.symm, rfl⟩

set_option maxRecDepth 4000 in
set_option maxHeartbeats 800000 in
theorem tolsOK_any (a : Option Addr) (L : List TolP) (cap : Nat) (hn : L.length ≤ 1073741824) (w : World) (hL : TolsAt w a L) :
    Calls Tryf.prog 10 #[.slice a L.length cap] w fun x w' => x = .returned (.bool (tolsB L)) ∧ Below w.heap.size w w' := by
  by_cases hl : L.length ≤ 16
  · go_enter Tryf.func10, Tryf.ntmps10
    go_wp2
    go_loopw [3] (fun i wr => ∃ k : Nat, k ≤ L.length ∧ i = .int .i64 k ∧ Hid (∀ j, j < k → tol1 (L.getD j tolZ) = true) ∧ Hid (Below w.heap.size w wr)) (fun i _ => L.length - (intOf i).toNat)
    case atStart => exact ⟨0, Nat.zero_le _, rfl, fun j hj => absurd hj (by omega), Below.refl _ _⟩
    case round =>
      obtain ⟨k, hk, rfl, HA, HB⟩ := hrel
      by_cases hlt : k < L.length
      · obtain ⟨b, off, rfl, hb, hT⟩ := hL k hlt
        have hT' := hT.below hb HB.out
        obtain ⟨t, ht⟩ : ∃ t, L.getD k tolZ = t := ⟨_, rfl⟩
        rw [ht] at hT'
        obtain ⟨c4, hc4, _⟩ := hT'.c4
        have hc0 := hT'.c0
        have hc1 := hT'.c1
        have hc2 := hT'.c2
        have hc3 := hT'.c3
        have HT : Hid (L.getD k tolZ = t) := ht
        clear ht hL hT hT'
        cases hok : tol1 t with
        | true =>
          have HN : Hid (∀ j, j < k + 1 → tol1 (L.getD j tolZ) = true) := upto_succ HA.out (by rw [HT.out]; exact hok)
          have HO : Hid (tolB t.k t.o t.v t.e = true) := hok
          clear hok
          go_wp2_with fail
          refine (tolOK_any t.k t.o t.v t.e c4 _).mono ?_
          rintro x w' ⟨rfl, hb'⟩
          rw [HO.out]
          go_wp2
          go_roundw
          case rel => exact ⟨k + 1, by omega, by go_num, HN, HB.out.trans (hb'.mono HB.out.size)⟩
          case measure => simp [intOf]; omega
        | false =>
          have HN : Hid (tolsB L = false) := tolsB_bad hlt (by rw [HT.out]; exact hok)
          have HO : Hid (tolB t.k t.o t.v t.e = false) := hok
          clear hok
          go_wp2_with fail
          refine (tolOK_any t.k t.o t.v t.e c4 _).mono ?_
          rintro x w' ⟨rfl, hb'⟩
          rw [HO.out]
          go_wp2
          go_ret
          exact ⟨ret_bool HN.out.symm, HB.out.trans (hb'.mono HB.out.size)⟩
      · have hkS : k = L.length := by omega
        subst hkS
        have HN : Hid (tolsB L = true) := tolsB_good hl HA.out
        clear hL
        go_wp2
        go_ret
        exact ⟨ret_bool HN.out.symm, HB.out⟩
  · have HN : Hid (tolsB L = false) := tolsB_long hl
    go_enter Tryf.func10, Tryf.ntmps10
    go_wp2
    go_ret
    exact ⟨ret_bool HN.out.symm, Below.refl _ _⟩
end Go.Proofs.Qxb6616224aFmt
