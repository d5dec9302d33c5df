/-
  FnWinsFoldIsOrderFree, from its region 26 on: none of the three wins over the winner; the five other orders.
-/
import Derived.Test.Qxb6616132aFoldMore
import Derived.Test.Qxb6616132aTail
import Derived.Deep.DeepCutAuto
import Derived.Deep.Light

namespace Go.Proofs.Qxb6616132a
open Go.RowKit

set_option maxRecDepth 100000 in
set_option maxHeartbeats 8000000 in
theorem foldPartD (w wc : World) (a0 a2 a3 a5 a6 a8 : Int) (a1 a4 a7 : ByteArray) (mv : ByteArray) (mt : Int) (mp : Bool)
    (HM : Hid (fold3 ⟨a1, a2, a0 == 3⟩ ⟨a4, a5, a3 == 3⟩ ⟨a7, a8, a6 == 3⟩ = ⟨mv, mt, mp⟩))
    (HB : Hid (Below (((w.alloc (.cells #[.int .u8 a0, emS, emS, emS, emS, .string a1, emS, emS, emS, emS, .int .i64 a2, .bool false] 25)).alloc (.cells #[.int .u8 a3, emS, emS, emS, emS, .string a4, emS, emS, emS, emS, .int .i64 a5, .bool false] 25)).alloc (.cells #[.int .u8 a6, emS, emS, emS, emS, .string a7, emS, emS, emS, emS, .int .i64 a8, .bool false] 25)).heap.size (((w.alloc (.cells #[.int .u8 a0, emS, emS, emS, emS, .string a1, emS, emS, emS, emS, .int .i64 a2, .bool false] 25)).alloc (.cells #[.int .u8 a3, emS, emS, emS, emS, .string a4, emS, emS, emS, emS, .int .i64 a5, .bool false] 25)).alloc (.cells #[.int .u8 a6, emS, emS, emS, emS, .string a7, emS, emS, emS, emS, .int .i64 a8, .bool false] 25)) wc))
    (u0 u1 u2 u3 u4 u5 u6 u7 u8 u9 u10 u11 u12 u13 u14 u15 u16 u17 u18 u22 u23 u24 u28 u29 u30 u31 u32 u33 u34 u35 u36 u37 u38 u39 u40 u41 u42 u43 u44 u45 u46 u47 u48 u49 u50 u51 u52 u53 u54 u55 u56 u57 u58 u59 u60 u61 u62 u63 u64 u65 u66 u67 u68 u69 u70 u71 u72 u73 u74 u75 u76 u77 u78 u79 u80 u81 u82 u83 u84 u85 u86 u87 u88 u89 u90 u91 u92 u93 u94 u95 u96 u97 u98 u99 u100 u101 u102 u103 u104 u105 u106 u107 u108 u109 u110 u111 u112 u113 u114 u115 u116 u117 u118 u119 u120 u121 u122 u123 u124 u125 u126 u127 u128 u129 u130 u131 u132 u133 u134 u135 u136 u137 u138 u139 u140 u141 u142 u143 u144 u145 u146 u147 u148 u149 u150 u151 u152 u153 u154 u155 u156 u157 u158 u159 u160 u161 u162 u163 u164 u165 u166 u167 u168 u169 u170 u171 u172 u173 u174 u175 u176 u177 u178 u179 u180 u181 u182 u183 u184 u185 u186 u187 u188 u189 u190 u191 u192 u193 u194 u195 u196 u197 u198 u199 u200 u201 u202 u203 u204 u205 u206 u207 u208 u209 u210 u211 u212 u213 u214 u215 u216 u217 u218 u219 u220 u221 u222 u223 u224 u225 u226 u227 u228 u229 u230 u231 u232 u233 u234 u235 u236 u237 u238 u239 u240 u241 u242 u243 u244 u245 u246 u247 u248 u249 : Value) :
    Code.wp Try.prog (codeFrom 26 Try.f3) (bodyPost Try.prog Try.f3 fun e w' => e = .returned (.bool true) ∧ Below w.heap.size w w')
      ⟨#[u0, u1, u2, u3, u4, u5, u6, u7, u8, u9, u10, u11, u12, u13, u14, u15, u16, u17, u18, .pointer (some ⟨w.heap.size, 0, none⟩), .pointer (some ⟨w.heap.size + 1, 0, none⟩), .pointer (some ⟨w.heap.size + 1 + 1, 0, none⟩), u22, u23, u24, .string mv, .int .i64 mt, .bool mp, u28, u29, u30, u31, u32, u33, u34, u35, u36, u37, u38, u39, u40, u41, u42, u43, u44, u45, u46, u47, u48, u49, u50, u51, u52, u53, u54, u55, u56, u57, u58, u59, u60, u61, u62, u63, u64, u65, u66, u67, u68, u69, u70, u71, u72, u73, u74, u75, u76, u77, u78, u79, u80, u81, u82, u83, u84, u85, u86, u87, u88, u89, u90, u91, u92, u93, u94, u95, u96, u97, u98, u99, u100, u101, u102, u103, u104, u105, u106, u107, u108, u109, u110, u111, u112, u113, u114, u115, u116, u117, u118, u119, u120, u121, u122, u123, u124, u125, u126, u127, u128, u129, u130, u131, u132, u133, u134, u135, u136, u137, u138, u139, u140, u141, u142, u143, u144, u145, u146, u147, u148, u149, u150, u151, u152, u153, u154, u155, u156, u157, u158, u159, u160, u161, u162, u163, u164, u165, u166, u167, u168, u169, u170, u171, u172, u173, u174, u175, u176, u177, u178, u179, u180, u181, u182, u183, u184, u185, u186, u187, u188, u189, u190, u191, u192, u193, u194, u195, u196, u197, u198, u199, u200, u201, u202, u203, u204, u205, u206, u207, u208, u209, u210, u211, u212, u213, u214, u215, u216, u217, u218, u219, u220, u221, u222, u223, u224, u225, u226, u227, u228, u229, u230, u231, u232, u233, u234, u235, u236, u237, u238, u239, u240, u241, u242, u243, u244, u245, u246, u247, u248, u249], []⟩ wc := by
  have hba := HB.out
  clear HB
  obtain ⟨hca, hfa⟩ := bcell hba
  simp only [emS] at hca
  clear hfa
  have hz1 : w.heap.size < wc.heap.size := by have := hba.size; simp at this; omega
  have hz2 : w.heap.size + 1 < wc.heap.size := by have := hba.size; simp at this; omega
  have hz3 : w.heap.size + 1 + 1 < wc.heap.size := by have := hba.size; simp at this; omega
  have G0 : Hid (Below w.heap.size w wc) := ((((Below.refl _ _).alloc (Nat.le_refl _) _).alloc (by simp) _).alloc (by simp; omega) _).trans (hba.mono (by simp; omega))
  clear hba
  have HN1 : beatsB ⟨a1, a2, a0 == 3⟩ ⟨mv, mt, mp⟩ = false := HM.out ▸ fold3_x _ _ _
  have HN2 : beatsB ⟨a4, a5, a3 == 3⟩ ⟨mv, mt, mp⟩ = false := HM.out ▸ fold3_y _ _ _
  have HN3 : beatsB ⟨a7, a8, a6 == 3⟩ ⟨mv, mt, mp⟩ = false := HM.out ▸ fold3_z _ _ _
  replace HN1 : Hid (beatsB ⟨a1, a2, a0 == 3⟩ ⟨mv, mt, mp⟩ = false) := HN1
  replace HN2 : Hid (beatsB ⟨a4, a5, a3 == 3⟩ ⟨mv, mt, mp⟩ = false) := HN2
  replace HN3 : Hid (beatsB ⟨a7, a8, a6 == 3⟩ ⟨mv, mt, mp⟩ = false) := HN3
  conv => arg 2; whnf
  go_wp2_with fail
  refine (zzwins_no _ _ _ _ _ _ _ _ _ _ _ _ _ _ _ _ HN1.out).mono ?_
  rintro e wd ⟨rfl, hb⟩
  have hwwd : Below wc.heap.size wc wd := hb
  have hcwd := (bcell hwwd).1
  clear hb
  go_wp2_with fail
  refine (zzwins_no _ _ _ _ _ _ _ _ _ _ _ _ _ _ _ _ HN2.out).mono ?_
  rintro e we ⟨rfl, hb⟩
  have hwwe : Below wc.heap.size wc we := hwwd.trans (hb.mono hwwd.size)
  have hcwe := (bcell hwwe).1
  clear hcwd
  clear hb
  go_wp2_with fail
  refine (zzwins_no _ _ _ _ _ _ _ _ _ _ _ _ _ _ _ _ HN3.out).mono ?_
  rintro e wf ⟨rfl, hb⟩
  have hwwf : Below wc.heap.size wc wf := hwwe.trans (hb.mono hwwe.size)
  have hcwf := (bcell hwwf).1
  clear hcwe
  clear hb
  go_wp2_with fail
  refine (same_of _ _ _ _ _ _ _ _ _ mv mt mp ((fold_acb _ _ _).trans HM.out) _).mono ?_
  rintro e wg ⟨rfl, hb⟩
  have hwwg : Below wc.heap.size wc wg := hwwf.trans (hb.mono hwwf.size)
  have hcwg := (bcell hwwg).1
  clear hb hcwf
  go_wp2_with fail
  refine (same_of _ _ _ _ _ _ _ _ _ mv mt mp ((fold_bac _ _ _).trans HM.out) _).mono ?_
  rintro e wh ⟨rfl, hb⟩
  have hwwh : Below wc.heap.size wc wh := hwwg.trans (hb.mono hwwg.size)
  have hcwh := (bcell hwwh).1
  clear hb hcwg
  go_wp2_with fail
  refine (same_of _ _ _ _ _ _ _ _ _ mv mt mp ((fold_bca _ _ _).trans HM.out) _).mono ?_
  rintro e wi ⟨rfl, hb⟩
  have hwwi : Below wc.heap.size wc wi := hwwh.trans (hb.mono hwwh.size)
  have hcwi := (bcell hwwi).1
  clear hb hcwh
  go_wp2_with fail
  refine (same_of _ _ _ _ _ _ _ _ _ mv mt mp ((fold_cab _ _ _).trans HM.out) _).mono ?_
  rintro e wj ⟨rfl, hb⟩
  have hwwj : Below wc.heap.size wc wj := hwwi.trans (hb.mono hwwi.size)
  have hcwj := (bcell hwwj).1
  clear hb hcwi
  go_wp2_with fail
  refine (same_of _ _ _ _ _ _ _ _ _ mv mt mp ((fold_cba _ _ _).trans HM.out) _).mono ?_
  rintro e wk ⟨rfl, hb⟩
  have hwwk : Below wc.heap.size wc wk := hwwj.trans (hb.mono hwwj.size)
  go_wp2_with fail
  go_ret
  exact ⟨rfl, G0.out.trans (hwwk.mono (Nat.le_of_lt hz1))⟩
end Go.Proofs.Qxb6616132a
