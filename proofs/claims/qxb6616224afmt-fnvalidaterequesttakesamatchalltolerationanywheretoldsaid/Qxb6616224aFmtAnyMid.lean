/-
  FnValidateRequestTakesAMatchAllTolerationAnywhere, from its region 20 on: the grown slice.
-/
import Derived.Test.Qxb6616224aFmtAnyTail
import Derived.Deep.DeepCutAuto
import Derived.Deep.CutBlock
namespace Go.Proofs.Qxb6616224aFmt
open Go.RowKit Go.Extern.Stop Go.Stop Go.Extern

theorem Tryf.info32 : (Tryf.prog.info? 32).map (fun i => (i.zero, i.size, i.bytes)) = some (some (.agg #[.string ⟨#[]⟩, .string ⟨#[]⟩, .string ⟨#[]⟩, .string ⟨#[]⟩, .pointer none]), 5, 72) := by kernel_rfl

theorem grown_none {W w w' : World} {r : Option Nat} (h : Below W.heap.size W w) (hg : w.grownBy w' r) (hr : ∀ k, r = some k → W.heap.size ≤ k := by intro k hk; cases hk) : Below W.heap.size W w' := h.grown hg h.size hr
theorem ao_nil1 {b : Option Addr} {n cb k l : Nat} (h : b = none → n = 0 ∧ cb = 0) (hl : l ≤ cb := by omega) : (if cb = n then b else b.map (·.add k)) = none → l - n = 0 ∧ cb - n = 0 := by
  intro e
  cases b with
  | none => obtain ⟨h1, h2⟩ := h rfl; omega
  | some x => split at e <;> cases e
theorem cells_take0 {w : World} {b : Option Addr} {M : List (TolP × Value)} (h : CellsOf w b M) (n : Nat) (hn : n ≤ M.length) :
    ∀ ad, b = some ad → ∀ j u, (flat (M.take n))[j]? = some u → w.cell? (ad.add j) = some u := by
  intro ad had j u hu
  refine cells_take h n (M.length + 1) hn (by omega) (fun _ => ?_) ad had j u hu
  cases b with
  | none => rfl
  | some x => obtain ⟨x1, x2, x3⟩ := x; rfl
theorem five_new (w : World) (e : TypeId) : ∀ j u, (five (tolE, .pointer none))[j]? = some u →
    (w.alloc (.cells #[.string ⟨#[]⟩, .string ⟨#[69, 120, 105, 115, 116, 115]⟩, .string ⟨#[]⟩, .string ⟨#[]⟩, .pointer none] e)).cell? ((⟨w.heap.size, 0, none⟩ : Addr).add j) = some u := by
  intro j u h
  rw [Addr.add_lit, Nat.zero_add]
  match j, h with
  | 0, h => simp [five, tolE] at h; subst h; simp only [World.cell?, heap_alloc_new]; rfl
  | 1, h => simp [five, tolE] at h; subst h; simp only [World.cell?, heap_alloc_new]; rfl
  | 2, h => simp [five, tolE] at h; subst h; simp only [World.cell?, heap_alloc_new]; rfl
  | 3, h => simp [five, tolE] at h; subst h; simp only [World.cell?, heap_alloc_new]; rfl
  | 4, h => simp [five, tolE] at h; subst h; simp only [World.cell?, heap_alloc_new]; rfl
  | j + 5, h => simp [five] at h
theorem five_one : ∀ u ∈ five (tolE, .pointer none), u.oneCell' = true := by
  intro u hu
  simp [five] at hu
  rcases hu with rfl | rfl | rfl | rfl | rfl <;> rfl

set_option maxRecDepth 100000 in
set_option maxHeartbeats 4000000 in
theorem anyMid (F : Interp) (HT : Hid (ShortT F)) (w W : World) (fld oth : ByteArray) (hfl : fld.size ≤ 1048576) (hol : oth.size ≤ 1048576) (a b : Option Addr) (S : List (Option ByteArray)) (L : List TolP) (ca cb : Nat) (hn : S.length ≤ 1048576) (hm : L.length ≤ 1048576) (pos : Int) (hcap : L.length ≤ cb) (hnil : b = none → cb = 0)
    (HF : Hid (F.answers W.tape)) (HB : Hid (Below w.heap.size w W)) (HS : Hid (SelsAt W a S)) (HL : Hid (TolsAt W b L))
    (u5 u6 u7 u8 u9 u10 u11 u12 u13 u14 u15 u16 u17 u18 u19 u20 u21 u22 u23 u24 u25 u26 u27 u28 u29 u30 u31 u32 u33 u34 u35 u36 u37 u38 u39 u40 u41 u42 u43 u44 u45 u46 u47 u48 u49 u50 u51 u52 u53 u54 u55 u56 u57 u58 u59 u60 u61 u62 u63 u64 u65 u66 u67 u68 u69 u70 u71 u72 u73 u74 u75 u76 u77 u78 u79 u80 u81 u82 u83 u84 u85 u86 u87 u88 u89 u90 u91 u92 u93 u94 u95 u96 u97 u98 u99 u100 u101 u102 u103 u104 u105 u106 u107 u108 u109 u110 u111 u112 u113 u114 u115 u116 u117 u118 u119 u120 u121 u122 u123 u124 u125 u126 u127 u128 u129 u130 u131 u132 u133 u134 u135 u136 u137 u138 u139 u140 u141 u142 u143 u144 u145 u146 u147 u148 u149 u150 u151 u152 u153 u154 : Value) :
    Code.wp Tryf.prog (codeFrom 20 Tryf.f4) (bodyPost Tryf.prog Tryf.f4 fun e w' => e = .returned (.bool true) ∧ Below w.heap.size w w')
      ⟨#[.string fld, .string oth, .slice a S.length ca, .slice b L.length cb, .int .i64 pos, u5, u6, u7, u8, u9, u10, u11, u12, u13, u14, u15, u16, u17, u18, u19, u20, u21, u22, u23, u24, u25, u26, u27, u28, u29, u30, u31, u32, u33, u34, u35, u36, u37, u38, u39, u40, u41, u42, u43, u44, u45, u46, u47, u48, u49, u50, u51, u52, u53, u54, u55, u56, u57, u58, u59, u60, u61, u62, u63, u64, u65, u66, u67, u68, u69, u70, u71, u72, u73, u74, u75, u76, u77, u78, u79, u80, u81, u82, u83, u84, u85, u86, u87, u88, u89, u90, u91, u92, u93, u94, u95, u96, u97, u98, u99, u100, u101, u102, u103, u104, u105, u106, u107, u108, u109, u110, u111, u112, u113, u114, u115, u116, u117, u118, u119, u120, u121, u122, u123, u124, u125, u126, u127, u128, u129, u130, u131, u132, u133, u134, u135, u136, u137, u138, u139, u140, u141, u142, u143, u144, u145, u146, u147, u148, u149, u150, u151, u152, u153, u154], []⟩ W := by
  dsimp only
  conv => arg 2; whnf
  by_cases hp : 0 ≤ pos ∧ pos ≤ L.length
  case neg =>
    have Hp : Hid (¬ (0 ≤ pos ∧ pos ≤ L.length)) := hp
    clear hp
    go_wp2_with fail
    all_goals first
      | (go_ret; exact ⟨rfl, HB.out⟩)
      | (exfalso; have := Hp.out; omega)
  obtain ⟨n, rfl⟩ : ∃ n : Nat, pos = (n : Int) := ⟨pos.toNat, by omega⟩
  have hnL : n ≤ L.length := by omega
  clear hp
  obtain ⟨i0, hi, hz0, hz1, hz2⟩ := info_parts Tryf.info32
  obtain ⟨M, hML, hM1, hM2⟩ := tols_pairs HL.out
  have hMl : M.length = L.length := by rw [← hML]; simp
  have HML : Hid (M.map (·.1) = L) := hML
  have HM1 : Hid (Secs W M) := hM1
  have HM2 : Hid (CellsOf W b M) := hM2
  clear hM1 hM2 hML
  have Hnil : Hid (b = none → n = 0 ∧ cb = 0) := fun h => by have := hnil h; omega
  clear hnil
  have B0 : Hid (Below W.heap.size W W) := Below.refl _ _
  go_upto_region 25 with (first
    | (at_make; refine wpList_make_own _ rfl _ _ 23 rfl W.heap.size 32 i0 _ 5 Tryf.underlying23 hi hz0 hz1 _ _ _ (L.length + 1) rfl rfl (by go_num) (by rw [hz2]; omega) (by unfold maxLen; omega) (Nat.le_refl _) ?_; intro w1 hown1 hgrow1; have B1 : Hid (Below W.heap.size W w1) := grown_none B0.out hgrow1; clear hgrow1)
    | (at_builtin; (refine wpList_append_fits_any _ rfl (.tmp 108) (.tmp 111) 23 rfl W.heap.size 32 i0 5 Tryf.underlying23 hi hz1 W.heap.size 0 (L.length + 1) _ rfl hown1 _ n _ (flat (M.take n)) rfl (by rw [flat_len, List.length_take]; omega) Hnil.out (cells_take0 (HM2.out.below B1.out) n (by omega)) (flat_one (HM1.out.take n)) (by omega) ?_); intro w2 hown2 hgrow2; have B2 : Hid (Below W.heap.size W w2) := grown_none B1.out hgrow2 (by intro k hk; cases hk; exact Nat.le_refl _); rw [Nat.zero_add, List.nil_append] at hown2; clear hgrow2 hown1)
    | (at_builtin; (refine wpList_append_fits _ rfl (.tmp 113) (.tmp 115) 23 rfl W.heap.size 32 i0 5 Tryf.underlying23 hi hz1 W.heap.size n (L.length + 1) _ rfl (hown2.alloc _) ⟨w2.heap.size, 0, none⟩ 1 1 (five (tolE, .pointer none)) rfl rfl (five_new _ _) five_one (by omega) ?_); intro w3 hown3 hgrow3; have B3 : Hid (Below W.heap.size W w3) := grown_none (B2.out.alloc B2.out.size _) hgrow3 (by intro k hk; cases hk; exact Nat.le_refl _); clear hgrow3 hown2))
  go_cut [14] from 104 to 154 (fun z wx => z = .slice (some ⟨W.heap.size, 0, none⟩) (L.length + 1) (L.length + 1) ∧ Hid (Below W.heap.size W wx) ∧ Hid (wx.ownsRow W.heap.size 32 5 (.slice (some ⟨W.heap.size, 0, none⟩) (L.length + 1) (L.length + 1)) (L.length + 1) (flat (M.take n ++ ([(tolE, .pointer none)] ++ M.drop n)))))
  case first =>
    go_wp2_with (first
      | (at_builtin; (refine wpList_append_fits_any _ rfl (.tmp 117) (.tmp 120) 23 rfl W.heap.size 32 i0 5 Tryf.underlying23 hi hz1 W.heap.size (n + 1) (L.length + 1) _ rfl hown3 _ (L.length - n) _ (flat (M.drop n)) rfl (by rw [flat_len, List.length_drop, hMl]) (ao_nil1 Hnil.out) (cells_drop (HM2.out.below B3.out) n cb (by omega) (by omega) (fun h => if_neg h)) (flat_one (HM1.out.drop n)) (by omega) ?_); intro w4 hown4 hgrow4; have B4 : Hid (Below W.heap.size W w4) := grown_none B3.out hgrow4 (by intro k hk; cases hk; exact Nat.le_refl _); clear hgrow4 hown3))
    all_goals
      try subst h
      go_meet
      have e : ∀ m, m ≤ L.length → m + 1 + (L.length - m) = L.length + 1 := fun m _ => by omega
      rw [e _ hnL] at hown4 ⊢
      refine ⟨rfl, B4.out, ?_⟩
      rw [flat_append, flat_append, ← List.append_assoc]
      exact hown4
  case rest =>
  obtain ⟨rfl, HBx, Hown⟩ := hcut
  go_step
  have hG : (M.take n ++ ([((tolE, .pointer none) : TolP × Value)] ++ M.drop n)).map (fun p : TolP × Value => p.1) = grown L n := by rw [← HML.out]; simp [grown, List.map_take, List.map_drop]
  have hs : Secs W (M.take n ++ ([(tolE, .pointer none)] ++ M.drop n)) := (HM1.out.take n).append (Secs.append (fun p hp => by rw [List.mem_singleton] at hp; subst hp; exact Or.inl rfl) (HM1.out.drop n))
  have hGx := tols_of_row (by simp; omega) Hown.out (hs.below HBx.out)
  rw [hG] at hGx
  exact anyTail F HT w _ fld oth hfl hol a b S L ca cb hn hm (some ⟨W.heap.size, 0, none⟩) (L.length + 1) (L.length + 1) (grown L n) (by rw [grown_len]) (grown_len _ _) (grown_B _ _) (tape_of HF.out HBx.out) (HB.out.trans (HBx.out.mono HB.out.size)) (HS.out.below HBx.out) (HL.out.below HBx.out) hGx _ _ _ _ _ _ _ _ _ _ _ _ _ _ _ _ _ _ _ _ _ _ _ _ _ _ _ _ _ _ _ _ _ _ _ _ _ _ _ _ _ _ _ _ _ _ _ _ _ _ _ _ _ _ _ _ _ _ _ _ _ _ _ _ _ _ _ _ _ _ _ _ _ _ _ _ _ _ _ _ _ _ _ _ _ _ _ _ _ _ _ _ _ _ _ _ _ _ _ _ _ _ _ _ _ _ _ _ _ _ _ _ _ _ _ _ _ _ _ _ _ _ _ _ _ _ _ _ _ _ _ _ _ _ _ _ _ _ _ _ _ _ _ _ _ _ _ _ _ _
end Go.Proofs.Qxb6616224aFmt
