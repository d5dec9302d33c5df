/-
  THE WALK of toSelectors.
-/
import Derived.Test.Qxb6616224aFmtF3
namespace Go.Proofs.Qxb6616224aFmt
open Go.RowKit

/-! ### A block of the call's own, whole -/
theorem blk_cell {w : World} {g : Nat} {arr : Array Value} {t : TypeId} (h : w.heap[g]? = some (.cells arr t (0, 0))) (i : Nat) : w.cell? ⟨g, i, none⟩ = arr[i]? := by
  simp [World.cell?, h]
theorem blk_free {w : World} {g : Nat} {arr : Array Value} {t : TypeId} (h : w.heap[g]? = some (.cells arr t (0, 0))) (i : Nat) : w.frozen? ⟨g, i, none⟩ = false := by
  simp [World.frozen?, h]
theorem blk_lt {w : World} {g : Nat} {o : Obj} (h : w.heap[g]? = some o) : g < w.heap.size := by
  rcases Nat.lt_or_ge g w.heap.size with h' | h'
  · exact h'
  · rw [Array.getElem?_eq_none h'] at h; cases h
theorem blk_alloc {w : World} {g : Nat} {o : Obj} (h : w.heap[g]? = some o) (x : Obj) : (w.alloc x).heap[g]? = some o := by
  rw [Below.heap_alloc w x g (blk_lt h)]; exact h
theorem blk_set {w : World} {g : Nat} {arr : Array Value} {t : TypeId} (h : w.heap[g]? = some (.cells arr t (0, 0))) (i : Nat) (v : Value) : (w.setCell ⟨g, i, none⟩ v).heap[g]? = some (.cells (arr.setIfInBounds i v) t (0, 0)) := by
  simp [World.setCell, Array.getElem?_modify, h]
theorem arr_get (C : Array Value) (i : Nat) (h : i < C.size) : ∃ v, C[i]? = some v := ⟨C[i], by simp [h]⟩

theorem Tryf.info47 : (Tryf.prog.info? 47).map (fun i => (i.zero, i.size, i.bytes)) = some (some (.agg #[.pointer none]), 1, 8) := by kernel_rfl
theorem Tryf.info49 : (Tryf.prog.info? 49).map (fun i => (i.zero, i.size, i.bytes)) = some (some (.agg #[.string ⟨#[]⟩, .string ⟨#[]⟩, .string ⟨#[]⟩, .string ⟨#[]⟩, .pointer none]), 5, 72) := by kernel_rfl

theorem make47 (n : Nat) (hn : n ≤ 1073741824) (w : World) :
    ∃ C : Array Value, C.size = n ∧ (∀ i, i < n → C[i]? = some (.pointer none)) ∧ (Instr.makeSlice 33 (.int .i64 (n : Int)) (.int .i64 (n : Int))).run Tryf.prog w = .ok (.slice (some ⟨w.heap.size, 0, none⟩) n n) (w.alloc (.cells C 47)) := by
  obtain ⟨i0, hi, hz0, hz1, hz2⟩ := info_parts Tryf.info47
  refine ⟨madeCells (Value.cells (.agg #[.pointer none])) (n * 1), by simp [size_madeCells], ?_, ?_⟩
  · intro i h
    simp [madeCells, Value.cells, h, Nat.mod_one]
  · rw [run_make (P := Tryf.prog) w 33 47 i0 _ Tryf.underlying33 hi hz0 .i64 .i64 n n (by omega) (Int.le_refl _) (by rw [hz2]; omega) (by omega)]
    rw [hz1]
    simp
theorem make49 (n : Nat) (hn : n ≤ 1073741824) (w : World) :
    ∃ C : Array Value, C.size = n * 5 ∧ (∀ i, i < n → C[i * 5 + 4]? = some (.pointer none)) ∧ (Instr.makeSlice 35 (.int .i64 (n : Int)) (.int .i64 (n : Int))).run Tryf.prog w = .ok (.slice (some ⟨w.heap.size, 0, none⟩) n n) (w.alloc (.cells C 49)) := by
  obtain ⟨i0, hi, hz0, hz1, hz2⟩ := info_parts Tryf.info49
  refine ⟨madeCells (Value.cells (.agg #[.string ⟨#[]⟩, .string ⟨#[]⟩, .string ⟨#[]⟩, .string ⟨#[]⟩, .pointer none])) (n * 5), by simp [size_madeCells], ?_, ?_⟩
  · intro i h
    have e : (i * 5 + 4) % 5 = 4 := by omega
    simp [madeCells, Value.cells, e, show i * 5 + 4 < n * 5 by omega]
  · rw [run_make (P := Tryf.prog) w 35 49 i0 _ Tryf.underlying35 hi hz0 .i64 .i64 n n (by omega) (Int.le_refl _) (by rw [hz2]; omega) (by omega)]
    rw [hz1]
    simp

/-! ### toSelectors -/
/-- A selector's pointer into blocks behind g. -/
def SelG (g : Nat) (w : World) (c : Value) (s : Option ByteArray) : Prop :=
  (s = none ∧ c = .pointer none) ∨ ∃ pb e, s = some e ∧ c = .pointer (some ⟨pb, 0, none⟩) ∧ g < pb ∧ pb < w.heap.size ∧ w.cell? ⟨pb, 0, none⟩ = some (.string e)
theorem SelG.at {g : Nat} {w : World} {c : Value} {s : Option ByteArray} (h : SelG g w c s) : SelAt w c s := by
  rcases h with h | ⟨pb, e, h1, h2, _, h3, h4⟩
  · exact .inl h
  · exact .inr ⟨pb, 0, e, h1, h2, h3, h4⟩
/-- The row at g behind k rounds. -/
def SelRow (g n : Nat) (w : World) (S : List (Option ByteArray)) (k : Nat) : Prop :=
  ∃ arr : Array Value, w.heap[g]? = some (.cells arr 47 (0, 0)) ∧ arr.size = n ∧ ∀ i, i < n → ∃ c, arr[i]? = some c ∧ (i < k → SelG g w c (S.getD i none)) ∧ (k ≤ i → c = .pointer none)

theorem SelG.step {g k : Nat} {w : World} {c v : Value} {s : Option ByteArray} {o : Obj} (h : SelG g w c s) : SelG g ((w.setCell ⟨g, k, none⟩ v).alloc o) c s := by
  rcases h with h | ⟨pb, e, h1, h2, h3, h4, h5⟩
  · exact .inl h
  · refine .inr ⟨pb, e, h1, h2, h3, by simp [World.setCell]; omega, ?_⟩
    rw [World.cell?_alloc_old _ _ _ (by simp [World.setCell]; omega), World.cell?_setCell_other]
    · exact h5
    · intro e; simp only [Addr.mk.injEq] at e; omega

theorem selRow_none {g n k : Nat} {w : World} {S : List (Option ByteArray)} (h : SelRow g n w S k) (hs : S.getD k none = none) : SelRow g n w S (k + 1) := by
  obtain ⟨arr, h1, h2, h3⟩ := h
  refine ⟨arr, h1, h2, fun i hi => ?_⟩
  obtain ⟨c, hc, ha, hb⟩ := h3 i hi
  refine ⟨c, hc, fun hik => ?_, fun hki => hb (by omega)⟩
  by_cases e : i = k
  · subst e; exact .inl ⟨hs, hb (Nat.le_refl _)⟩
  · exact ha (by omega)
theorem selRow_some {g n k : Nat} {w : World} {S : List (Option ByteArray)} (h : SelRow g n w S k) (hk : k < n) (e : ByteArray) (hs : S.getD k none = some e) :
    SelRow g n ((w.setCell ⟨g, k, none⟩ (.pointer (some ⟨w.heap.size, 0, none⟩))).alloc (.cells #[.string e] 45)) S (k + 1) := by
  obtain ⟨arr, h1, h2, h3⟩ := h
  have hg := blk_lt h1
  refine ⟨arr.setIfInBounds k (.pointer (some ⟨w.heap.size, 0, none⟩)), blk_alloc (blk_set h1 k _) _, by simp [h2], fun i hi => ?_⟩
  obtain ⟨c, hc, ha, hb⟩ := h3 i hi
  by_cases e' : i = k
  · subst e'
    refine ⟨.pointer (some ⟨w.heap.size, 0, none⟩), by simp [h2, hi], fun _ => ?_, fun h => absurd h (by omega)⟩
    refine .inr ⟨w.heap.size, e, hs, rfl, hg, by simp [World.setCell], ?_⟩
    have := World.cell?_alloc_new (w.setCell ⟨g, i, none⟩ (.pointer (some ⟨w.heap.size, 0, none⟩))) #[.string e] 45 0
    simpa [World.setCell] using this
  · refine ⟨c, by rw [Array.getElem?_setIfInBounds, if_neg (fun h => e' h.symm)]; exact hc, fun h => (ha (by omega)).step, fun h => hb (by omega)⟩

theorem selRow_at {g n : Nat} {w : World} {S : List (Option ByteArray)} (h : SelRow g n w S n) (hn : S.length = n) : SelsAt w (some ⟨g, 0, none⟩) S := by
  obtain ⟨arr, h1, h2, h3⟩ := h
  intro i hi
  obtain ⟨c, hc, ha, _⟩ := h3 i (by omega)
  exact ⟨g, 0, c, rfl, blk_lt h1, by rw [Nat.zero_add, blk_cell h1]; exact hc, (ha (by omega)).at⟩

theorem toSels_nil (n cap : Nat) (w : World) :
    Calls Tryf.prog 6 #[.slice none n cap] w fun e w' => e = .returned (.slice none 0 0) ∧ w = w' := by
  have hnil := fun w => Lib.run_eql_slice_nil (P := Tryf.prog) w 22 27 none n cap 0 0 Tryf.underlying22
  go_enter Tryf.func6, Tryf.ntmps6
  go_wp2
  go_ret
  exact ⟨rfl, rfl⟩

set_option maxRecDepth 4000 in
set_option maxHeartbeats 1600000 in
theorem toSels_some (x : Addr) (S : List (Option ByteArray)) (cap : Nat) (hn : S.length ≤ 1073741824) (w : World) (hS : SelsAt w (some x) S) :
    Calls Tryf.prog 6 #[.slice (some x) S.length cap] w fun e w' => e = .returned (.slice (some ⟨w.heap.size, 0, none⟩) S.length S.length) ∧ SelsAt w' (some ⟨w.heap.size, 0, none⟩) S ∧ Below w.heap.size w w' := by
  obtain ⟨C, hCs, hCz, hmk⟩ := make47 S.length hn w
  have hnil := fun w => Lib.run_eql_slice_nil (P := Tryf.prog) w 22 27 (some x) S.length cap 0 0 Tryf.underlying22
  have HC : Hid (C.size = S.length ∧ ∀ i, i < S.length → C[i]? = some (.pointer none)) := ⟨hCs, hCz⟩
  clear hCs hCz
  go_enter Tryf.func6, Tryf.ntmps6
  go_wp2
  go_loopw [4] (fun i wr => ∃ k : Nat, k ≤ S.length ∧ i = .int .i64 k ∧ Hid (SelRow w.heap.size S.length wr S k) ∧ Hid (Below w.heap.size w wr)) (fun i _ => S.length - (intOf i).toNat)
  case atStart =>
    refine ⟨0, Nat.zero_le _, rfl, ⟨C, (MapKept.heap_alloc w _).1, HC.out.1, fun i hi => ⟨_, HC.out.2 i hi, fun h => absurd h (by omega), fun _ => rfl⟩⟩, (Below.refl _ _).alloc (Nat.le_refl _) _⟩
  case round =>
    obtain ⟨k, hk, rfl, HR, HB⟩ := hrel
    have hws := HB.out.size
    clear hmk hnil HC
    by_cases hlt : k < S.length
    · obtain ⟨b, off, c, hx, hb, hc, hsel⟩ := hS k hlt
      simp only [Option.some.injEq] at hx
      subst hx
      rw [← HB.out.cell (by exact hb)] at hc
      have hsel' := hsel.below HB.out
      obtain ⟨s, hs⟩ : ∃ s, S.getD k none = s := ⟨_, rfl⟩
      rw [hs] at hsel'
      have hbr : b < wr.heap.size := by omega
      clear hsel hS
      rcases hsel' with ⟨rfl, rfl⟩ | ⟨pb, po, e, rfl, rfl, hpb, hpc⟩
      · have HR' : Hid (SelRow w.heap.size S.length wr S (k + 1)) := selRow_none HR.out hs
        clear hs
        go_wp2
        go_roundw
        case rel => exact ⟨k + 1, by omega, by go_num, HR', HB⟩
        case measure => simp [intOf]; omega
      · have HR' : Hid (SelRow w.heap.size S.length ((wr.setCell ⟨w.heap.size, k, none⟩ (.pointer (some ⟨wr.heap.size, 0, none⟩))).alloc (.cells #[.string e] 45)) S (k + 1)) := selRow_some HR.out hlt e hs
        have HB' : Hid (Below w.heap.size w ((wr.setCell ⟨w.heap.size, k, none⟩ (.pointer (some ⟨wr.heap.size, 0, none⟩))).alloc (.cells #[.string e] 45))) := (HB.out.setCell (Nat.le_refl _) _).alloc (by simpa [World.setCell] using hws) _
        obtain ⟨arr, ha1, ha2, ha3⟩ := HR.out
        obtain ⟨v0, hv0⟩ := arr_get arr k (by omega)
        have hgc : wr.cell? ⟨w.heap.size, k, none⟩ = some v0 := by rw [blk_cell ha1]; exact hv0
        have hgf : wr.frozen? ⟨w.heap.size, k, none⟩ = false := blk_free ha1 k
        have hgl : w.heap.size < wr.heap.size := blk_lt ha1
        clear hs ha1 ha2 ha3 hv0
        go_wp2
        go_roundw
        case rel => exact ⟨k + 1, by omega, by go_num, HR', HB'⟩
        case measure => simp [intOf]; omega
    · have hkz : k = S.length := by omega
      subst hkz
      clear hS
      go_wp2
      go_ret
      exact ⟨rfl, selRow_at HR.out rfl, HB.out⟩
end Go.Proofs.Qxb6616224aFmt
