/-
  What is asked of fmt's text holds of fmt told; the two slice arguments opened.
-/
import Derived.Test.Qxb6616224aFmtF3
import Derived.ProofKit
import Derived.Stop.JoinedAt
import Derived.Stop.Texts
import Derived.Stop.JoinedTold
import Derived.Stop.FmtQuoteTie
import Derived.Stop.FmtTextKit
import Derived.SizedLaws
import Derived.Deep.Slices
import Derived.Deep.Fields
import Derived.Deep.Strs
namespace Go.Proofs.Qxb6616224aFmt
open Go.ChangeShapes Go.WideShapes Go.ChangeAt Go.RowKit Go.Kit Go.Deep
open Go.Extern.Stop Go.Stop Go.Extern

/-! ### The text of "%s[%d]" -/
theorem sd_parse : (FmtText.parse [37, 115, 91, 37, 100, 93]).map FmtText.glue = some [.verb {} 115, .lit [91], .verb {} 100, .lit [93]] := by rfl

theorem i64_bits {k : Nat} (h : k ≤ 1048576) : digits 8 (k % 18446744073709551616) = digits 8 k := by
  rw [Nat.mod_eq_of_lt (by omega)]

theorem sd_text (fld : List UInt8) (k : Nat) (hs : fld.length < 2 ^ 64) (hw : (Lit.int .i64 (k : Int)).wf = true) :
    FmtText.text "fmt.Sprintf" [[37, 115, 91, 37, 100, 93], shape9, FmtStop.pack fld, shape3, digits 8 (k % 18446744073709551616)] = some (fld ++ [91] ++ Lib.itoa (k : Int) ++ [93]) := by
  have hi := FmtText.operand_int_at (sh := shape3) (k := .i64) rfl rfl (k : Int) hw
  have hn := FmtText.operand_str_at (sh := shape9) rfl rfl fld hs
  have e := FmtText.text_sprintf_glued sd_parse (FmtText.operands_cons hn (FmtText.operands_cons hi FmtText.operands_nil))
  simp [FmtText.render, FmtText.printArg_s_str, FmtText.printArg_d _ _ hw] at e
  have ek : ((k : Int) % 18446744073709551616).toNat = k % 18446744073709551616 := by omega
  rw [ek] at e
  rw [e]
  simp

theorem shortT (F : Interp) : ShortT F.told := by
  intro fld k hf hk
  have hw : (Lit.int .i64 (k : Int)).wf = true := by simp [Lit.wf, IntKind.min, IntKind.max, IntKind.signed, IntKind.bits]; omega
  have hl : fld.data.toList.length = fld.size := by simp
  have hi := FmtText.itoa_length_le hw
  have ht := told_string F (sd_text fld.data.toList k (by omega) hw) (by simp only [List.length_append, List.length_cons, List.length_nil]; omega)
  have e : (FmtStop.textOf (F.told "fmt.Sprintf" [[37, 115, 91, 37, 100, 93], shape9, FmtStop.pack fld.data.toList, shape3, digits 8 (k % 18446744073709551616)] 0)).data.toList.length = (fld.data.toList ++ [91] ++ Lib.itoa (k : Int) ++ [93]).length := by
    rw [textOf_list, ht]
  simp only [List.length_append, List.length_cons, List.length_nil] at e
  rw [Array.length_toList] at e
  have : (FmtStop.textOf (F.told "fmt.Sprintf" [[37, 115, 91, 37, 100, 93], shape9, FmtStop.pack fld.data.toList, shape3, digits 8 (k % 18446744073709551616)] 0)).size = _ := e
  omega

/-! ### The slices opened -/
instance : Inhabited TolP := ⟨tolZ⟩
section
variable {H : Type} {enc : TypeId × Value → H} {w : World} {base : Nat} {spare : Nat → Bool} {held : Bool}

theorem open_sel {fuel : Nat} {c : Value} {x : DataW H × List MemPlace} (h : DataW.trod enc Tryf.prog w base spare held fuel 27 [c] = some x) : ∃ s, SelAt w c s := by
  obtain ⟨y0, n, _, _, h1⟩ := trod_struct1 Tryf.underlying27 h
  have h2 : DataW.trod enc Tryf.prog w base spare held n 25 [c] = some y0 := h1
  rcases open_ptr_fields Tryf.underlying25 Tryf.underlying29 (hone_of (by kernel_rfl)) (by kernel_rfl) (by decide) h2 with ⟨e, _⟩ | ⟨b, o, m, V, Y, e, _, _, hV⟩
  · exact ⟨none, .inl ⟨rfl, by simpa using e⟩⟩
  · obtain ⟨h3, h4⟩ := hV 0 _ rfl
    obtain ⟨s, h5, _, _⟩ := DataW.trod_string Tryf.underlying9 h4
    have h6 : V 0 = .string s := by simpa using h5
    rw [h6] at h3
    exact ⟨some s, .inr ⟨b, o, s, rfl, by simpa using e, World.block_lt_of_cell? _ _ h3, h3⟩⟩

theorem open_sec {fuel : Nat} {c : Value} {x : DataW H × List MemPlace} (h : DataW.trod enc Tryf.prog w base spare held fuel 30 [c] = some x) : SecAt w c := by
  rcases DataW.trod_pointer Tryf.underlying30 h with ⟨e, _⟩ | ⟨a, cs', y, m, _, e, _, hcells, hy⟩
  · exact .inl (by simpa using e)
  · obtain ⟨z, h5, _, _⟩ := DataW.trod_int Tryf.underlying2 hy
    obtain ⟨b, o, spot⟩ := a
    obtain ⟨_, hlen, hcell⟩ := World.cells?_some hcells
    have h0 := hcell 0 (by decide)
    rw [h5] at h0
    have hspot : spot = none := by simpa [Addr.add] using World.cell?_spot h0
    subst hspot
    rw [add_plain] at h0
    exact .inr ⟨b, o, z, by simpa using e, World.block_lt_of_cell? _ _ h0, h0⟩

theorem open_tol {fuel b o : Nat} {cs : List Value} {x : DataW H × List MemPlace} (hc : w.cells? base ⟨b, o, none⟩ 5 = some cs) (h : DataW.trod enc Tryf.prog w base spare held fuel 32 cs = some x) : ∃ t, TolAt w b o t := by
  obtain ⟨hb, hlen, hcell⟩ := World.cells?_some hc
  obtain ⟨xs, n, _, rfl, _, hxl, hf⟩ := DataW.trod_struct Tryf.underlying32 h
  match cs, xs, hlen, hxl with
  | [a0, a1, a2, a3, a4], [y0, y1, y2, y3, y4], _, _ =>
    have g0 : DataW.trod enc Tryf.prog w base spare held n 9 [a0] = some y0 := hf 0 _ rfl
    have g1 : DataW.trod enc Tryf.prog w base spare held n 9 [a1] = some y1 := hf 1 _ rfl
    have g2 : DataW.trod enc Tryf.prog w base spare held n 9 [a2] = some y2 := hf 2 _ rfl
    have g3 : DataW.trod enc Tryf.prog w base spare held n 9 [a3] = some y3 := hf 3 _ rfl
    have g4 : DataW.trod enc Tryf.prog w base spare held n 30 [a4] = some y4 := hf 4 _ rfl
    obtain ⟨s0, e0, _, _⟩ := DataW.trod_string Tryf.underlying9 g0
    obtain ⟨s1, e1, _, _⟩ := DataW.trod_string Tryf.underlying9 g1
    obtain ⟨s2, e2, _, _⟩ := DataW.trod_string Tryf.underlying9 g2
    obtain ⟨s3, e3, _, _⟩ := DataW.trod_string Tryf.underlying9 g3
    have q4 := open_sec g4
    simp at e0 e1 e2 e3
    subst e0; subst e1; subst e2; subst e3
    have c0 := hcell 0 (by decide)
    have c1 := hcell 1 (by decide)
    have c2 := hcell 2 (by decide)
    have c3 := hcell 3 (by decide)
    have c4 := hcell 4 (by decide)
    rw [add_plain] at c0 c1 c2 c3 c4
    exact ⟨⟨s0, s1, s2, s3⟩, c0, c1, c2, c3, _, c4, q4⟩

theorem open_sels {fuel : Nat} {a : Option Addr} {len cap : Nat} {x : DataW H × List MemPlace} (h : DataW.trod enc Tryf.prog w base spare held fuel 22 [.slice a len cap] = some x) :
    ∃ S : List (Option ByteArray), S.length = len ∧ len ≤ maxLen ∧ SelsAt w a S := by
  rcases open_slice1 Tryf.underlying22 (by kernel_rfl) h with ⟨e, _⟩ | ⟨q, l, c, m, n, V, D, Pl, e, _, hl, hm, hmm, _, hx⟩
  · simp at e
    obtain ⟨rfl, rfl, rfl⟩ := e
    exact ⟨[], rfl, by decide, fun i hi => absurd hi (by simp)⟩
  · simp at e
    obtain ⟨rfl, rfl, rfl⟩ := e
    have hle : len ≤ m := by rw [hmm]; split <;> omega
    obtain ⟨f, hf⟩ := choose_lt (n := len) (α := Option ByteArray) (p := fun i s => SelAt w (V i) s) (fun i hi => open_sel (hx i (by omega)).2)
    refine ⟨(List.range len).map f, by simp, by omega, fun i hi => ?_⟩
    simp at hi
    obtain ⟨h1, _⟩ := hx i (by omega)
    have hspot := World.cell?_spot (hx 0 (by omega)).1
    obtain ⟨b, o, spot⟩ := q
    have hs : spot = none := by simpa [Addr.add] using hspot
    subst hs
    rw [add_plain] at h1
    refine ⟨b, o, V i, rfl, World.block_lt_of_cell? _ _ h1, h1, ?_⟩
    have := hf i hi
    simpa [List.getD_eq_getElem?_getD, hi] using this

theorem open_tols {fuel : Nat} {a : Option Addr} {len cap : Nat} {x : DataW H × List MemPlace} (h : DataW.trod enc Tryf.prog w base spare held fuel 23 [.slice a len cap] = some x) :
    ∃ L : List TolP, L.length = len ∧ len ≤ maxLen ∧ TolsAt w a L := by
  rcases open_slice Tryf.underlying23 h with ⟨e, _⟩ | ⟨q, l, c, m, n, D, Pl, e, _, hl, hm, hmm, _, hx⟩
  · simp at e
    obtain ⟨rfl, rfl, rfl⟩ := e
    exact ⟨[], rfl, by decide, fun i hi => absurd hi (by simp)⟩
  · simp at e
    obtain ⟨rfl, rfl, rfl⟩ := e
    have hle : len ≤ m := by rw [hmm]; split <;> omega
    have h5 : Tryf.prog.cellsOf 32 = 5 := by kernel_rfl
    rw [h5] at hx
    obtain ⟨b, o, spot⟩ := q
    have each : ∀ i, i < len → ∃ t, spot = none ∧ TolAt w b (o + i * 5) t := fun i hi => by
      obtain ⟨cs0, h0, _⟩ := hx 0 (by omega)
      obtain ⟨_, hl5, hcell⟩ := World.cells?_some h0
      have h0 := hcell 0 (by decide)
      rw [List.getElem?_eq_getElem (by omega)] at h0
      have hs : spot = none := by simpa [Addr.add] using World.cell?_spot h0
      subst hs
      obtain ⟨cs, h1, h2⟩ := hx i (by omega)
      rw [add_plain] at h1
      obtain ⟨t, ht⟩ := open_tol h1 h2
      exact ⟨t, rfl, ht⟩
    obtain ⟨f, hf⟩ := choose_lt each
    refine ⟨(List.range len).map f, by simp, by omega, fun i hi => ?_⟩
    simp at hi
    obtain ⟨hs, ht⟩ := hf i hi
    subst hs
    refine ⟨b, o, rfl, World.block_lt_of_cell? _ _ ht.c0, ?_⟩
    simpa [List.getD_eq_getElem?_getD, hi] using ht
end
end Go.Proofs.Qxb6616224aFmt
