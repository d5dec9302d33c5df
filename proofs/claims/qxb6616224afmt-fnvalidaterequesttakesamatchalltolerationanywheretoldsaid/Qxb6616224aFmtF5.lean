/-
  THE WALK of toTolerations.
-/
import Derived.Test.Qxb6616224aFmtF4
namespace Go.Proofs.Qxb6616224aFmt
open Go.RowKit

/-- A pointer to an int64 behind g, or nil. -/
def SecG (g : Nat) (w : World) (c : Value) : Prop := c = .pointer none ∨ ∃ pb x, c = .pointer (some ⟨pb, 0, none⟩) ∧ g < pb ∧ pb < w.heap.size ∧ w.cell? ⟨pb, 0, none⟩ = some (.int .i64 x)
theorem SecG.at {g : Nat} {w : World} {c : Value} (h : SecG g w c) : SecAt w c := by
  rcases h with h | ⟨pb, x, h1, _, h3, h4⟩
  · exact .inl h
  · exact .inr ⟨pb, 0, x, h1, h3, h4⟩
/-- The five cells at o hold t. -/
def Five (arr : Array Value) (o : Nat) (t : TolP) : Prop := arr[o]? = some (.string t.k) ∧ arr[o + 1]? = some (.string t.o) ∧ arr[o + 2]? = some (.string t.v) ∧ arr[o + 3]? = some (.string t.e)
def TolRow (g n : Nat) (w : World) (L : List TolP) (k : Nat) : Prop :=
  ∃ arr : Array Value, w.heap[g]? = some (.cells arr 49 (0, 0)) ∧ arr.size = n * 5 ∧ ∀ i, i < n → ∃ c, arr[i * 5 + 4]? = some c ∧ (i < k → Five arr (i * 5) (L.getD i tolZ) ∧ SecG g w c) ∧ (k ≤ i → c = .pointer none)

/-- Four strings are stored at o. -/
def put4 (w : World) (g o : Nat) (t : TolP) : World := (((w.setCell ⟨g, o, none⟩ (.string t.k)).setCell ⟨g, o + 1, none⟩ (.string t.o)).setCell ⟨g, o + 2, none⟩ (.string t.v)).setCell ⟨g, o + 3, none⟩ (.string t.e)
theorem put4_size (w : World) (g o : Nat) (t : TolP) : (put4 w g o t).heap.size = w.heap.size := by simp [put4, World.setCell]
def arr4 (arr : Array Value) (o : Nat) (t : TolP) : Array Value := (((arr.setIfInBounds o (.string t.k)).setIfInBounds (o + 1) (.string t.o)).setIfInBounds (o + 2) (.string t.v)).setIfInBounds (o + 3) (.string t.e)
theorem put4_blk {w : World} {g : Nat} {arr : Array Value} (h : w.heap[g]? = some (.cells arr 49 (0, 0))) (o : Nat) (t : TolP) : (put4 w g o t).heap[g]? = some (.cells (arr4 arr o t) 49 (0, 0)) :=
  blk_set (blk_set (blk_set (blk_set h _ _) _ _) _ _) _ _
theorem arr4_other (arr : Array Value) (o : Nat) (t : TolP) (i : Nat) (h : i < o ∨ o + 3 < i) : (arr4 arr o t)[i]? = arr[i]? := by
  unfold arr4
  rw [Array.getElem?_setIfInBounds, if_neg (by omega), Array.getElem?_setIfInBounds, if_neg (by omega), Array.getElem?_setIfInBounds, if_neg (by omega), Array.getElem?_setIfInBounds, if_neg (by omega)]
theorem arr4_five (arr : Array Value) (o : Nat) (t : TolP) (h : o + 4 < arr.size) : Five (arr4 arr o t) o t := by
  refine ⟨?_, ?_, ?_, ?_⟩ <;> unfold arr4 <;> simp [Array.getElem?_setIfInBounds] <;> omega
theorem arr4_size (arr : Array Value) (o : Nat) (t : TolP) : (arr4 arr o t).size = arr.size := by simp [arr4]
theorem put4_cell {w : World} {g o : Nat} {t : TolP} {b i : Nat} (h : ¬ b = g) : (put4 w g o t).cell? ⟨b, i, none⟩ = w.cell? ⟨b, i, none⟩ := by
  unfold put4
  have hne : ∀ j, (⟨g, j, none⟩ : Addr) ≠ ⟨b, i, none⟩ := fun j e => by simp only [Addr.mk.injEq] at e; exact h e.1.symm
  rw [World.cell?_setCell_other _ _ _ _ (hne _), World.cell?_setCell_other _ _ _ _ (hne _), World.cell?_setCell_other _ _ _ _ (hne _), World.cell?_setCell_other _ _ _ _ (hne _)]
theorem put4_below {B g o : Nat} {t : TolP} {a w : World} (h : Below B a w) (hB : B ≤ g) : Below B a (put4 w g o t) :=
  (((h.setCell (by exact hB) _).setCell (by exact hB) _).setCell (by exact hB) _).setCell (by exact hB) _

theorem Five.keep {arr arr' : Array Value} {o : Nat} {t : TolP} (h : Five arr o t) (he : ∀ j, j < 4 → arr'[o + j]? = arr[o + j]?) : Five arr' o t :=
  ⟨(he 0 (by omega)).trans h.1, (he 1 (by omega)).trans h.2.1, (he 2 (by omega)).trans h.2.2.1, (he 3 (by omega)).trans h.2.2.2⟩

theorem SecG.put4 {g o : Nat} {t : TolP} {w : World} {c : Value} (h : SecG g w c) : SecG g (put4 w g o t) c := by
  rcases h with h | ⟨pb, x, h1, h2, h3, h4⟩
  · exact .inl h
  · exact .inr ⟨pb, x, h1, h2, by rw [put4_size]; exact h3, by rw [put4_cell (by omega)]; exact h4⟩

theorem tolRow_nil {g n k : Nat} {w : World} {L : List TolP} {t : TolP} (h : TolRow g n w L k) (hk : k < n) (ht : L.getD k tolZ = t) : TolRow g n (put4 w g (k * 5) t) L (k + 1) := by
  obtain ⟨arr, h1, h2, h3⟩ := h
  refine ⟨arr4 arr (k * 5) t, put4_blk h1 _ _, by rw [arr4_size]; exact h2, fun i hi => ?_⟩
  obtain ⟨c, hc, ha, hb⟩ := h3 i hi
  refine ⟨c, by rw [arr4_other _ _ _ _ (by omega)]; exact hc, fun hik => ?_, fun hki => hb (by omega)⟩
  by_cases e : i = k
  · subst e
    rw [ht]
    exact ⟨arr4_five _ _ _ (by omega), .inl (hb (Nat.le_refl _))⟩
  · obtain ⟨f, s⟩ := ha (by omega)
    exact ⟨f.keep fun j hj => arr4_other _ _ _ _ (by omega), s.put4⟩
theorem tolRow_ptr {g n k : Nat} {w : World} {L : List TolP} {t : TolP} (h : TolRow g n w L k) (hk : k < n) (ht : L.getD k tolZ = t) (x : Int) :
    TolRow g n (((put4 w g (k * 5) t).setCell ⟨g, k * 5 + 4, none⟩ (.pointer (some ⟨w.heap.size, 0, none⟩))).alloc (.cells #[.int .i64 x] 2)) L (k + 1) := by
  obtain ⟨arr, h1, h2, h3⟩ := h
  have hg := blk_lt h1
  have hsz : ((put4 w g (k * 5) t).setCell ⟨g, k * 5 + 4, none⟩ (.pointer (some ⟨w.heap.size, 0, none⟩))).heap.size = w.heap.size := by
    rw [← put4_size w g (k * 5) t]; simp [World.setCell]
  refine ⟨(arr4 arr (k * 5) t).setIfInBounds (k * 5 + 4) (.pointer (some ⟨w.heap.size, 0, none⟩)), blk_alloc (blk_set (put4_blk h1 _ _) _ _) _, by rw [Array.size_setIfInBounds, arr4_size]; exact h2, fun i hi => ?_⟩
  obtain ⟨c, hc, ha, hb⟩ := h3 i hi
  by_cases e : i = k
  · subst e
    refine ⟨.pointer (some ⟨w.heap.size, 0, none⟩), ?_, fun _ => ?_, fun h => absurd h (by omega)⟩
    · rw [Array.getElem?_setIfInBounds, if_pos rfl, if_pos (by rw [arr4_size]; omega)]
    · rw [ht]
      refine ⟨(arr4_five arr (i * 5) t (by omega)).keep fun j hj => by rw [Array.getElem?_setIfInBounds, if_neg (by omega)], ?_⟩
      refine .inr ⟨w.heap.size, x, rfl, hg, by simp [hsz], ?_⟩
      have := World.cell?_alloc_new ((put4 w g (i * 5) t).setCell ⟨g, i * 5 + 4, none⟩ (.pointer (some ⟨w.heap.size, 0, none⟩))) #[.int .i64 x] 2 0
      rw [hsz] at this
      simpa using this
  · refine ⟨c, ?_, fun h => ?_, fun h => hb (by omega)⟩
    · rw [Array.getElem?_setIfInBounds, if_neg (by omega), arr4_other _ _ _ _ (by omega)]; exact hc
    · obtain ⟨f, s⟩ := ha (by omega)
      refine ⟨f.keep fun j hj => by rw [Array.getElem?_setIfInBounds, if_neg (by omega), arr4_other _ _ _ _ (by omega)], ?_⟩
      rcases s with s | ⟨pb, y, s1, s2, s3, s4⟩
      · exact .inl s
      · refine .inr ⟨pb, y, s1, s2, by simp [hsz]; omega, ?_⟩
        rw [World.cell?_alloc_old _ _ _ (by rw [hsz]; show pb ≠ w.heap.size; omega), World.cell?_setCell_other]
        · rw [put4_cell (by omega)]; exact s4
        · intro e; simp only [Addr.mk.injEq] at e; omega

theorem tolRow_at {g n : Nat} {w : World} {L : List TolP} (h : TolRow g n w L n) (hn : L.length = n) : TolsAt w (some ⟨g, 0, none⟩) L := by
  obtain ⟨arr, h1, h2, h3⟩ := h
  intro i hi
  obtain ⟨c, hc, ha, _⟩ := h3 i (by omega)
  obtain ⟨f, s⟩ := ha (by omega)
  refine ⟨g, 0, rfl, blk_lt h1, ?_⟩
  rw [Nat.zero_add]
  exact ⟨by rw [blk_cell h1]; exact f.1, by rw [blk_cell h1]; exact f.2.1, by rw [blk_cell h1]; exact f.2.2.1, by rw [blk_cell h1]; exact f.2.2.2, c, by rw [blk_cell h1]; exact hc, s.at⟩

theorem toTols_nil (n cap : Nat) (w : World) :
    Calls Tryf.prog 7 #[.slice none n cap] w fun e w' => e = .returned (.slice none 0 0) ∧ w = w' := by
  have hnil := fun w => Lib.run_eql_slice_nil (P := Tryf.prog) w 23 32 none n cap 0 0 Tryf.underlying23
  go_enter Tryf.func7, Tryf.ntmps7
  go_wp2
  go_ret
  exact ⟨rfl, rfl⟩

set_option maxRecDepth 4000 in
set_option maxHeartbeats 1600000 in
theorem toTols_some (x : Addr) (L : List TolP) (cap : Nat) (hn : L.length ≤ 1073741824) (w : World) (hL : TolsAt w (some x) L) :
    Calls Tryf.prog 7 #[.slice (some x) L.length cap] w fun e w' => e = .returned (.slice (some ⟨w.heap.size, 0, none⟩) L.length L.length) ∧ TolsAt w' (some ⟨w.heap.size, 0, none⟩) L ∧ Below w.heap.size w w' := by
  obtain ⟨C, hCs, hCz, hmk⟩ := make49 L.length hn w
  have hnil := fun w => Lib.run_eql_slice_nil (P := Tryf.prog) w 23 32 (some x) L.length cap 0 0 Tryf.underlying23
  have HC : Hid (C.size = L.length * 5 ∧ ∀ i, i < L.length → C[i * 5 + 4]? = some (.pointer none)) := ⟨hCs, hCz⟩
  clear hCs hCz
  go_enter Tryf.func7, Tryf.ntmps7
  go_wp2
  go_loopw [4, 5] (fun i _ wr => ∃ k : Nat, k ≤ L.length ∧ i = .int .i64 k ∧ Hid (TolRow w.heap.size L.length wr L k) ∧ Hid (Below w.heap.size w wr)) (fun i _ _ => L.length - (intOf i).toNat)
  case atStart =>
    refine ⟨0, Nat.zero_le _, rfl, ⟨C, (MapKept.heap_alloc w _).1, HC.out.1, fun i hi => ⟨_, HC.out.2 i hi, fun h => absurd h (by omega), fun _ => rfl⟩⟩, (Below.refl _ _).alloc (Nat.le_refl _) _⟩
  case round =>
    obtain ⟨k, hk, rfl, HR, HB⟩ := hrel
    have hws := HB.out.size
    clear hmk hnil HC
    by_cases hlt : k < L.length
    · obtain ⟨b, off, hx, hb, hT⟩ := hL k hlt
      simp only [Option.some.injEq] at hx
      subst hx
      have hT' := hT.below hb HB.out
      obtain ⟨t, ht⟩ : ∃ t, L.getD k tolZ = t := ⟨_, rfl⟩
      rw [ht] at hT'
      obtain ⟨c4, hc4, hsec⟩ := hT.c4
      rw [← HB.out.cell (by exact hb)] at hc4
      have hc0 := hT'.c0
      have hc1 := hT'.c1
      have hc2 := hT'.c2
      have hc3 := hT'.c3
      have hne1 : ¬ b = w.heap.size := by omega
      have hne2 : ¬ w.heap.size = b := by omega
      have HR1 : Hid (TolRow w.heap.size L.length (put4 wr w.heap.size (k * 5) t) L (k + 1)) := tolRow_nil HR.out hlt ht
      have HR2 : Hid (∀ x, TolRow w.heap.size L.length (((put4 wr w.heap.size (k * 5) t).setCell ⟨w.heap.size, k * 5 + 4, none⟩ (.pointer (some ⟨wr.heap.size, 0, none⟩))).alloc (.cells #[.int .i64 x] 2)) L (k + 1)) := tolRow_ptr HR.out hlt ht
      have HB1 : Hid (Below w.heap.size w (put4 wr w.heap.size (k * 5) t)) := put4_below HB.out (Nat.le_refl _)
      obtain ⟨arr, ha1, ha2, ha3⟩ := HR.out
      have hgl : w.heap.size < wr.heap.size := blk_lt ha1
      obtain ⟨v0, hv0⟩ := arr_get arr (k * 5) (by omega)
      obtain ⟨v1, hv1⟩ := arr_get arr (k * 5 + 1) (by omega)
      obtain ⟨v2, hv2⟩ := arr_get arr (k * 5 + 2) (by omega)
      obtain ⟨v3, hv3⟩ := arr_get arr (k * 5 + 3) (by omega)
      obtain ⟨v4, hv4⟩ := arr_get arr (k * 5 + 4) (by omega)
      rw [← blk_cell ha1] at hv0 hv1 hv2 hv3 hv4
      have hf : ∀ i, wr.frozen? ⟨w.heap.size, i, none⟩ = false := blk_free ha1
      clear ht hL hT hT' ha1 ha2 ha3 HR
      rcases hsec with rfl | ⟨pb, po, x, rfl, hpb, hpc⟩
      · go_wp2
        go_roundw
        case rel => exact ⟨k + 1, by omega, by go_num, HR1, HB1⟩
        case measure => simp [intOf]; omega
      · have hpg : ¬ pb = w.heap.size := by omega
        have hpg2 : ¬ w.heap.size = pb := by omega
        have hpr : pb < wr.heap.size := by omega
        rw [← HB.out.cell (by exact hpb)] at hpc
        go_wp2
        go_roundw
        case rel => exact ⟨k + 1, by omega, by go_num, HR2.out x, (HB1.out.setCell (Nat.le_refl _) _).alloc (by rw [← put4_size wr w.heap.size (k * 5) t] at hws; simpa [World.setCell] using hws) _⟩
        case measure => simp [intOf]; omega
    · have hkz : k = L.length := by omega
      subst hkz
      clear hL
      go_wp2
      go_ret
      exact ⟨rfl, tolRow_at HR.out rfl, HB.out⟩
end Go.Proofs.Qxb6616224aFmt
