/-
  THE WALKS of validateSelectors, validateTolerations, validateRequest and ZZValidateRequest.
-/
import Derived.Test.Qxb6616224aFmtF2
namespace Go.Proofs.Qxb6616224aFmt
open Go.RowKit Go.Extern.Stop Go.Stop Go.Extern
attribute [local go_sem] call17 guard17 f0 f0r f1 f1r f2 f2r f3 f3r f4 f4r f5 f5r f6 f6r op3_100 op9_115 op9_113

set_option maxRecDepth 4000 in
set_option maxHeartbeats 1600000 in
theorem valSels_any (F : Interp) (fld : ByteArray) (a : Option Addr) (S : List (Option ByteArray)) (cap : Nat) (hn : S.length ≤ 1073741824) (w : World) (hF : F.answers w.tape) (hS : SelsAt w a S) :
    Calls Tryf.prog 14 #[.string fld, .slice a S.length cap] w fun x w' => ∃ r, x = .returned r ∧ ErrIf (selsB S) r ∧ Below w.heap.size w w' := by
  by_cases hl : S.length ≤ 32
  · go_enter Tryf.func14, Tryf.ntmps14
    go_wp2
    go_loopw [6, 7, 8, 19] (fun _ _ _ i wr => ∃ k : Nat, k ≤ S.length ∧ i = .int .i64 k ∧ Hid (∀ j, j < k → sel1 (S.getD j none) = true) ∧ Hid (Below w.heap.size w wr)) (fun _ _ _ i _ => S.length - (intOf i).toNat)
    case atStart => exact ⟨0, Nat.zero_le _, rfl, fun j hj => absurd hj (by omega), Below.refl _ _⟩
    case round =>
      obtain ⟨k, hk, rfl, HA, HB⟩ := hrel
      have hFr : F.answers wr.tape := by rw [HB.out.tape]; exact hF
      have hF' := answers_open hFr
      have hws := HB.out.size
      clear hF hFr
      by_cases hlt : k < S.length
      · obtain ⟨b, off, c, rfl, hb, hc, hsel⟩ := hS k hlt
        rw [← HB.out.cell (by exact hb)] at hc
        have hsel' := hsel.below HB.out
        obtain ⟨s, hs⟩ : ∃ s, S.getD k none = s := ⟨_, rfl⟩
        rw [hs] at hsel'
        clear hsel
        have hbr : b < wr.heap.size := by omega
        rcases hsel' with ⟨rfl, rfl⟩ | ⟨pb, po, e, rfl, rfl, hpb, hpc⟩
        · have HN : Hid (selsB S = false) := selsB_bad hlt (by rw [hs]; rfl)
          clear hs hS
          go_wp2
          go_ret
          exact ⟨_, rfl, Or.inr ⟨HN.out, _, rfl⟩, (((HB.out.alloc hws _).alloc (by simp; omega) _).alloc (by simp; omega) _).drew⟩
        · have hpb' : pb < wr.heap.size + 1 := by omega
          by_cases he : e.size ≤ 10240
          · have HN : Hid (∀ j, j < k + 1 → sel1 (S.getD j none) = true) := upto_succ HA.out (by rw [hs]; simp [sel1, he])
            clear hs hS hF'
            go_wp2
            go_roundw
            case rel => exact ⟨k + 1, by omega, by go_num, HN, HB.out.alloc hws _⟩
            case measure => simp [intOf]; omega
          · have HN : Hid (selsB S = false) := selsB_bad hlt (by rw [hs]; simp [sel1, he])
            clear hs hS
            go_wp2_with (go_at_call 16; refine (overLimit_any F _ _ _ _ _ (by exact hF')).mono ?_; rintro x w' ⟨p, rfl, hb'⟩)
            go_ret
            refine ⟨_, rfl, Or.inr ⟨HN.out, _, rfl⟩, ?_⟩
            exact (((HB.out.alloc hws _).alloc (by simp; omega) _).drew).trans (hb'.mono (by simp; omega))
      · have hkS : k = S.length := by omega
        subst hkS
        have HN : Hid (selsB S = true) := selsB_good hl HA.out
        clear hF' hS
        go_wp2
        go_ret
        exact ⟨_, rfl, Or.inl ⟨HN.out, rfl⟩, HB.out⟩
  · have HN : Hid (selsB S = false) := selsB_long hl
    go_enter Tryf.func14, Tryf.ntmps14
    go_wp2_with (go_at_call 16; refine (overLimit_any F _ _ _ _ _ hF).mono ?_; rintro x w' ⟨p, rfl, hb⟩)
    go_ret
    exact ⟨_, rfl, Or.inr ⟨HN.out, _, rfl⟩, hb⟩

/-- What fmt.Sprintf("%s[%d]", ..) gives is short: all that is asked of fmt's text. -/
def ShortT (F : Interp) : Prop := ∀ (fld : ByteArray) (k : Nat), fld.size ≤ 2097152 → k ≤ 1048576 → (FmtStop.textOf (F "fmt.Sprintf" [[37, 115, 91, 37, 100, 93], shape9, FmtStop.pack fld.data.toList, shape3, digits 8 (k % 18446744073709551616)] 0)).size ≤ 1099511627776

set_option maxRecDepth 4000 in
set_option maxHeartbeats 1600000 in
theorem valTols_any (F : Interp) (fld : ByteArray) (hfl : fld.size ≤ 2097152) (HT : Hid (ShortT F)) (a : Option Addr) (L : List TolP) (cap : Nat) (hn : L.length ≤ 1073741824) (w : World) (hF : F.answers w.tape) (hL : TolsAt w a L) :
    Calls Tryf.prog 15 #[.string fld, .slice a L.length cap] w fun x w' => ∃ r, x = .returned r ∧ ErrIf (tolsB L) r ∧ Below w.heap.size w w' := by
  by_cases hl : L.length ≤ 16
  · go_enter Tryf.func15, Tryf.ntmps15
    go_wp2
    go_loopw [6, 7, 8, 19] (fun _ _ _ i wr => ∃ k : Nat, k ≤ L.length ∧ i = .int .i64 k ∧ Hid (∀ j, j < k → tol1 (L.getD j tolZ) = true) ∧ Hid (Below w.heap.size w wr)) (fun _ _ _ i _ => L.length - (intOf i).toNat)
    case atStart => exact ⟨0, Nat.zero_le _, rfl, fun j hj => absurd hj (by omega), Below.refl _ _⟩
    case round =>
      obtain ⟨k, hk, rfl, HA, HB⟩ := hrel
      have hFr : F.answers wr.tape := by rw [HB.out.tape]; exact hF
      have hF' := answers_open hFr
      have hws := HB.out.size
      clear hF
      by_cases hlt : k < L.length
      · obtain ⟨b, off, rfl, hb, hT⟩ := hL k hlt
        have hT' := hT.below hb HB.out
        obtain ⟨t, ht⟩ : ∃ t, L.getD k tolZ = t := ⟨_, rfl⟩
        rw [ht] at hT'
        obtain ⟨c4, hc4, hsec⟩ := hT'.c4
        obtain ⟨pv, rfl⟩ : ∃ pv, c4 = .pointer pv := by
          rcases hsec with h | ⟨_, _, _, h, _, _⟩
          · exact ⟨_, h⟩
          · exact ⟨_, h⟩
        have hc0 := hT'.c0
        have hc1 := hT'.c1
        have hc2 := hT'.c2
        have hc3 := hT'.c3
        clear hsec
        have HTt : Hid (L.getD k tolZ = t) := ht
        have hbr : b < wr.heap.size := by omega
        have hsh := HT.out fld k hfl (by omega)
        clear ht hL hT hT'
        go_wp2_with fail
        refine Calls.mono (validate_any F wr.heap.size t.k t.o t.v t.e _ _ ?vf hsh ?vb ?v0 ?v1 ?v2 ?v3) ?_
        case vf => exact hFr
        case vb => simp [go_sem]
        case v0 => simp [go_sem]
        case v1 => simp [go_sem]
        case v2 => simp [go_sem]
        case v3 => simp [go_sem]
        rintro x w' ⟨r, rfl, he, hb'⟩
        have hbb : Below w.heap.size w w' := (((HB.out.alloc hws _).alloc (by simp; omega) _).drew).trans (hb'.mono (by simp; omega))
        have HBB : Hid (Below w.heap.size w w') := hbb
        clear hbb hb' hsh hF' hFr
        rcases he with ⟨hok, rfl⟩ | ⟨hok, p, rfl⟩
        · have HN : Hid (∀ j, j < k + 1 → tol1 (L.getD j tolZ) = true) := upto_succ HA.out (by rw [HTt.out]; exact hok)
          clear hok
          go_wp2
          go_roundw
          case rel => exact ⟨k + 1, by omega, by go_num, HN, HBB⟩
          case measure => simp [intOf]; omega
        · have HN : Hid (tolsB L = false) := tolsB_bad hlt (by rw [HTt.out]; exact hok)
          clear hok
          go_wp2
          go_ret
          exact ⟨_, rfl, Or.inr ⟨HN.out, _, rfl⟩, HBB.out⟩
      · have hkS : k = L.length := by omega
        subst hkS
        have HN : Hid (tolsB L = true) := tolsB_good hl HA.out
        clear hF' hFr hL
        go_wp2
        go_ret
        exact ⟨_, rfl, Or.inl ⟨HN.out, rfl⟩, HB.out⟩
  · have HN : Hid (tolsB L = false) := tolsB_long hl
    go_enter Tryf.func15, Tryf.ntmps15
    go_wp2_with (go_at_call 16; refine (overLimit_any F _ _ _ _ _ hF).mono ?_; rintro x w' ⟨p, rfl, hb⟩)
    go_ret
    exact ⟨_, rfl, Or.inr ⟨HN.out, _, rfl⟩, hb⟩

set_option maxRecDepth 4000 in
set_option maxHeartbeats 800000 in
theorem valReq_any (F : Interp) (fld : ByteArray) (hfl : fld.size ≤ 1048576) (HT : Hid (ShortT F)) (a : Option Addr) (S : List (Option ByteArray)) (ca : Nat) (b : Option Addr) (L : List TolP) (cb : Nat) (hn : S.length ≤ 1073741824) (hm : L.length ≤ 1073741824)
    (w : World) (hF : F.answers w.tape) (hS : SelsAt w a S) (hL : TolsAt w b L) :
    Calls Tryf.prog 12 #[.string fld, .slice a S.length ca, .slice b L.length cb] w fun x w' => ∃ r, x = .returned r ∧ ErrIf (selsB S && tolsB L) r ∧ Below w.heap.size w w' := by
  have HF : Hid (F.answers w.tape) := hF
  clear hF
  go_enter Tryf.func12, Tryf.ntmps12
  go_wp2_with fail
  refine (valSels_any F _ a S ca hn w HF.out hS).mono ?_
  rintro x W1 ⟨r1, rfl, he1, hb1⟩
  have HB1 : Hid (Below w.heap.size w W1) := hb1
  have HF1 : Hid (F.answers W1.tape) := by have h := HF.out; rw [← hb1.tape] at h; exact h
  have HL1 : Hid (TolsAt W1 b L) := hL.below hb1
  clear hb1 hS hL
  rcases he1 with ⟨h1, rfl⟩ | ⟨h1, p, rfl⟩
  · have H1 : Hid (selsB S = true) := h1
    clear h1
    go_wp2_with fail
    refine (valTols_any F _ (by rw [ByteArray.size_append]; show fld.size + 12 ≤ 2097152; omega) HT b L cb hm W1 HF1.out HL1.out).mono ?_
    rintro x W2 ⟨r2, rfl, he2, hb2⟩
    have HB2 : Hid (Below w.heap.size w W2) := HB1.out.trans (hb2.mono HB1.out.size)
    have HE : Hid (ErrIf (selsB S && tolsB L) r2) := by rw [H1.out]; exact he2
    clear he2 hb2
    go_wp2_with fail
    go_ret
    exact ⟨r2, rfl, HE.out, HB2.out⟩
  · have HE : Hid (ErrIf (selsB S && tolsB L) (.iface 53 (.pointer (some p)))) := by rw [h1]; exact Or.inr ⟨rfl, _, rfl⟩
    clear h1
    go_wp2_with fail
    go_ret
    exact ⟨_, rfl, HE.out, HB1.out⟩

set_option maxRecDepth 4000 in
set_option maxHeartbeats 800000 in
theorem zzval_any (F : Interp) (fld : ByteArray) (hfl : fld.size ≤ 1048576) (HT : Hid (ShortT F)) (a : Option Addr) (S : List (Option ByteArray)) (ca : Nat) (b : Option Addr) (L : List TolP) (cb : Nat) (hn : S.length ≤ 1073741824) (hm : L.length ≤ 1073741824)
    (w : World) (hF : F.answers w.tape) (hS : SelsAt w a S) (hL : TolsAt w b L) :
    Calls Tryf.prog 8 #[.string fld, .slice a S.length ca, .slice b L.length cb] w fun x w' => ∃ r, x = .returned r ∧ ErrIf (selsB S && tolsB L) r ∧ Below w.heap.size w w' := by
  have HF : Hid (F.answers w.tape) := hF
  clear hF
  go_enter Tryf.func8, Tryf.ntmps8
  go_wp2_with (go_at_call 12; refine (valReq_any F fld hfl HT a S ca b L cb hn hm w HF.out hS hL).mono ?_; rintro x w' ⟨r, rfl, he, hb⟩)
  go_ret
  exact ⟨r, rfl, he, hb⟩
end Go.Proofs.Qxb6616224aFmt
