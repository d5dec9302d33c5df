/-
  cloneU64B1 at whatever slice; what the worlds behind newPending and grow hold; reversed lists.
-/
import Derived.Test.Qxb6616132aGrowWalk
namespace Go.Proofs.Qxb6616132a
open Go.RowKit

theorem SlU.below {w w' : World} {a : Option Addr} {ts : List Int} (h : SlU w a ts) (hb : Below w.heap.size w w') : SlU w' a ts := by
  intro i hi
  obtain ⟨b, off, e, hlt, hc⟩ := h i hi
  exact ⟨b, off, e, Nat.lt_of_lt_of_le hlt hb.size, by rw [hb.cell (by exact hlt)]; exact hc⟩

theorem SlU.of_row {w : World} {b off : Nat} {ts : List Int} (hb : b < w.heap.size) (h : RowU w b off ts) : SlU w (some ⟨b, off, none⟩) ts :=
  fun i hi => ⟨b, off, rfl, hb, h i hi⟩

set_option maxRecDepth 4000 in
set_option maxHeartbeats 400000 in
theorem clone_empty (x : Addr) (cap : Nat) (w : World) :
    Calls Try.prog 12 #[.slice (some x) 0 cap] w fun e w' => e = .returned (.slice (some ⟨w.heap.size, 0, none⟩) 0 0) ∧ w' = w.alloc (.cells (cellsU []) 39) := by
  have hmk := make_u64 0 (by omega)
  have hnil := fun w => Lib.run_eql_slice_nil (P := Try.prog) w 30 39 (some x) 0 cap 0 0 Try.underlying30
  have e0 : ((0 : Nat) : Int) = 0 := rfl
  rw [e0] at hmk
  clear e0
  go_enter Try.func12, Try.ntmps12
  go_wp2
  go_loop [4] (fun i => i = .int .i64 0) (fun _ => 0)
  case atStart => rfl
  case round =>
    subst hrel
    clear hmk hnil
    go_wp2
    go_ret
    exact ⟨rfl, rfl⟩

/-- cloneU64B1 at whatever slice, nil or not. -/
theorem clone_any (a : Option Addr) (ts : List Int) (cap : Nat) (hn : ts.length ≤ 1073741824) (w : World) (hs : SlU w a ts) :
    Calls Try.prog 12 #[.slice a ts.length cap] w fun e w' => ∃ a', e = .returned (.slice a' ts.length ts.length) ∧ SlU w' a' ts ∧ Below w.heap.size w w' := by
  by_cases h0 : ts.length = 0
  · have e : ts = [] := List.length_eq_zero_iff.1 h0
    subst e
    cases a with
    | none =>
      refine (clone_nil _ cap w).mono ?_
      rintro e w' ⟨rfl, rfl⟩
      exact ⟨none, rfl, fun i hi => absurd hi (by simp), Below.refl _ _⟩
    | some x =>
      refine (clone_empty x cap w).mono ?_
      rintro e w' ⟨rfl, rfl⟩
      exact ⟨_, rfl, fun i hi => absurd hi (by simp), (Below.refl _ _).alloc (Nat.le_refl _) _⟩
  · obtain ⟨b, off, rfl, hb, _⟩ := hs 0 (by omega)
    have hr : RowU w b off ts := by
      intro i hi
      obtain ⟨b', off', e, _, hc⟩ := hs i hi
      simp only [Option.some.injEq, Addr.mk.injEq, and_true] at e
      obtain ⟨rfl, rfl⟩ := e
      exact hc
    refine (clone_some b off ts cap hn w hb hr).mono ?_
    rintro e w' ⟨rfl, rfl⟩
    exact ⟨_, rfl, SlU.of_row (by simp) (RowU.new w ts), (Below.refl _ _).alloc (Nat.le_refl _) _⟩

/-! ### The world behind newPending -/
/-- A Pending at block pb whose changes lie at block cb with targets ts, and whose index is the slice iv. -/
structure PendAt (w : World) (pb cb : Nat) (ts : List Int) (iv : Value) : Prop where
  p2 : w.cell? ⟨pb, 2, none⟩ = some (.slice (some ⟨cb, 0, none⟩) ts.length ts.length)
  p3 : w.cell? ⟨pb, 3, none⟩ = some iv
  pf : w.frozen? ⟨pb, 3, none⟩ = false
  ch : ∀ i, i < ts.length → w.cell? ⟨cb, 14 * i + 1, none⟩ = some (.int .u64 (ts.getD i 0))
  lp : pb < w.heap.size
  lc : cb < w.heap.size
  ne : ¬ cb = pb

theorem pend_new (w : World) (C : Array Value) (ts : List Int) (iv : Value) (hC : ∀ i, i < ts.length → C[14 * i + 1]? = some (.int .u64 (ts.getD i 0))) :
    PendAt ((w.alloc (.cells C 52)).alloc (.cells #[.pointer none, .slice none 0 0, .slice (some ⟨w.heap.size, 0, none⟩) ts.length ts.length, iv, .int .i64 0, .int .i64 0] 56)) (w.heap.size + 1) w.heap.size ts iv := by
  refine ⟨?_, ?_, ?_, ?_, ?_, ?_, ?_⟩
  · simp [go_sem]
  · simp [go_sem]
  · simp [go_sem]
  · intro i hi
    have := hC i hi
    simp [go_sem, this]
  · simp
  · simp; omega
  · omega

theorem PendAt.below {w w' : World} {pb cb : Nat} {ts : List Int} {iv : Value} (h : PendAt w pb cb ts iv) (hb : Below w.heap.size w w') : PendAt w' pb cb ts iv := by
  refine ⟨?_, ?_, ?_, ?_, Nat.lt_of_lt_of_le h.lp hb.size, Nat.lt_of_lt_of_le h.lc hb.size, h.ne⟩
  · rw [hb.cell (by exact h.lp)]; exact h.p2
  · rw [hb.cell (by exact h.lp)]; exact h.p3
  · rw [hb.frozen (by exact h.lp)]; exact h.pf
  · intro i hi; rw [hb.cell (by exact h.lc)]; exact h.ch i hi

/-! ### The world behind grow: one cell of block pb written, one block made -/
theorem grown_cell (w : World) (pb : Nat) (v : Value) (X : Array Value) (b o : Nat) (hb : b < w.heap.size) (hne : ¬ b = pb) :
    ((w.setCell ⟨pb, 3, none⟩ v).alloc (.cells X 39)).cell? ⟨b, o, none⟩ = w.cell? ⟨b, o, none⟩ := by
  rw [World.cell?_alloc_old _ _ _ (by simp [World.setCell]; omega), World.cell?_setCell_other]
  intro e
  simp only [Addr.mk.injEq] at e
  exact hne e.1.symm
theorem grown_frozen (w : World) (pb : Nat) (v : Value) (X : Array Value) (b o : Nat) (hb : b < w.heap.size) :
    ((w.setCell ⟨pb, 3, none⟩ v).alloc (.cells X 39)).frozen? ⟨b, o, none⟩ = w.frozen? ⟨b, o, none⟩ := by
  rw [World.frozen?_alloc_old _ _ _ (by simp [World.setCell]; omega), World.frozen?_setCell]
theorem grown_p3 (w : World) (pb : Nat) (v u : Value) (X : Array Value) (hb : pb < w.heap.size) (hu : w.cell? ⟨pb, 3, none⟩ = some u) :
    ((w.setCell ⟨pb, 3, none⟩ v).alloc (.cells X 39)).cell? ⟨pb, 3, none⟩ = some v := by
  rw [World.cell?_alloc_old _ _ _ (by simp [World.setCell]; omega)]
  exact World.cell?_setCell_same _ _ _ hu
theorem grown_row (w : World) (pb : Nat) (v : Value) (g : List Int) : RowU ((w.setCell ⟨pb, 3, none⟩ v).alloc (.cells (cellsU g) 39)) w.heap.size 0 g := by
  have := RowU.new (w.setCell ⟨pb, 3, none⟩ v) g
  simpa [World.setCell] using this
theorem grown_size (w : World) (pb : Nat) (v : Value) (X : Array Value) : ((w.setCell ⟨pb, 3, none⟩ v).alloc (.cells X 39)).heap.size = w.heap.size + 1 := by simp [World.setCell]
theorem grown_below (w : World) (pb : Nat) (v : Value) (X : Array Value) (B : Nat) (hB : B ≤ pb) (hs : B ≤ w.heap.size) : Below B w ((w.setCell ⟨pb, 3, none⟩ v).alloc (.cells X 39)) :=
  ((Below.refl B w).setCell (by exact hB) v).alloc (by simpa [World.setCell] using hs) _

theorem RowU.grown {w : World} {b off : Nat} {zs : List Int} (h : RowU w b off zs) (pb : Nat) (v : Value) (X : Array Value) (hb : b < w.heap.size) (hne : ¬ b = pb) : RowU ((w.setCell ⟨pb, 3, none⟩ v).alloc (.cells X 39)) b off zs := by
  intro i hi
  rw [grown_cell _ _ _ _ _ _ hb hne]
  exact h i hi
theorem PendAt.grown {w : World} {pb cb : Nat} {ts : List Int} {iv : Value} (h : PendAt w pb cb ts iv) (qb : Nat) (v : Value) (X : Array Value) (h1 : ¬ pb = qb) (h2 : ¬ cb = qb) :
    PendAt ((w.setCell ⟨qb, 3, none⟩ v).alloc (.cells X 39)) pb cb ts iv := by
  refine ⟨?_, ?_, ?_, ?_, ?_, ?_, h.ne⟩
  · rw [grown_cell _ _ _ _ _ _ h.lp h1]; exact h.p2
  · rw [grown_cell _ _ _ _ _ _ h.lp h1]; exact h.p3
  · rw [grown_frozen _ _ _ _ _ _ h.lp]; exact h.pf
  · intro i hi; rw [grown_cell _ _ _ _ _ _ h.lc h2]; exact h.ch i hi
  · rw [grown_size]; have := h.lp; omega
  · rw [grown_size]; have := h.lc; omega

theorem zzgrow_at {w : World} {pb cb : Nat} {ts : List Int} {b off c0 n : Nat} (hP : PendAt w pb cb ts (.slice (some ⟨b, off, none⟩) n c0)) (q : Nat) (zs : List Int) (hn : zs.length = n) (hq : 2 * n = 2 ^ q) (hq2 : q ≤ 62) (hn0 : 0 < n) (hn1 : n ≤ 1048576) (ht1 : ts.length ≤ 1048576)
    (hb : b < w.heap.size) (hbp : ¬ b = pb) (hrow : RowU w b off zs) (hknown : knownB ts.length zs = true) (hfz : FitU zs) (hft : FitU ts) :
    Calls Try.prog 14 #[.pointer (some ⟨pb, 0, none⟩)] w fun e w' => e = .returned (.tuple #[]) ∧
      w' = (w.setCell ⟨pb, 3, none⟩ (.slice (some ⟨w.heap.size, 0, none⟩) (2 * n) (2 * n))).alloc (.cells (cellsU (growU (homeU ts (2 * n)) (2 * n) zs)) 39) :=
  zzgrow pb cb b off c0 n q zs ts w hn hq hq2 hn0 hn1 ht1 hP.lp hP.lc hb hP.ne hbp hP.p2 hP.p3 hP.pf hP.ch hrow hknown hfz hft

/-! ### Reversed lists -/
theorem known_reverse (m : Nat) (zs : List Int) : knownB m zs.reverse = knownB m zs := by unfold knownB; rw [List.all_reverse]
theorem fit_mem {zs : List Int} : FitU zs ↔ ∀ z ∈ zs, 0 ≤ z ∧ z < 18446744073709551616 := by
  constructor
  · intro h z hz
    obtain ⟨i, hi, rfl⟩ := List.getElem_of_mem hz
    have := h i
    simpa [List.getD_eq_getElem?_getD, hi] using this
  · intro h i
    by_cases hi : i < zs.length
    · have := h _ (List.getElem_mem hi)
      simpa [List.getD_eq_getElem?_getD, hi] using this
    · simp [List.getD_eq_getElem?_getD, Nat.le_of_not_lt hi]
theorem fit_reverse {zs : List Int} (h : FitU zs) : FitU zs.reverse := fit_mem.2 fun z hz => fit_mem.1 h z (by simpa using hz)
theorem cnt_reverse (zs : List Int) : cntU zs.reverse = cntU zs := by unfold cntU; rw [List.countP_reverse]

/-- The first k cells of the reversed list, the rest zero. -/
theorem rev_getD (zs : List Int) (k n : Nat) (hn : zs.length = n) (h : k < n) : zs.reverse.getD k 0 = zs.getD (n - 1 - k) 0 := by
  subst hn
  simp [List.getD_eq_getElem?_getD, List.getElem?_reverse h]
end Go.Proofs.Qxb6616132a
