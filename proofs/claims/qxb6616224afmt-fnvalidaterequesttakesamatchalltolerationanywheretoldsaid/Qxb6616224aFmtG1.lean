/-
  Tolerations as rows of five cells: plain facts; the grown list's verdict.
-/
import Derived.Test.Qxb6616224aFmtG0
import Derived.OwnWalk
import Derived.KernelRfl
namespace Go.Proofs.Qxb6616224aFmt
open Go.RowKit

def five (p : TolP × Value) : List Value := [.string p.1.k, .string p.1.o, .string p.1.v, .string p.1.e, p.2]
def flat (M : List (TolP × Value)) : List Value := M.flatMap five

theorem flat_cons (p : TolP × Value) (M : List (TolP × Value)) : flat (p :: M) = five p ++ flat M := by simp [flat]
theorem flat_append (M N : List (TolP × Value)) : flat (M ++ N) = flat M ++ flat N := by simp [flat]
theorem flat_len (M : List (TolP × Value)) : (flat M).length = M.length * 5 := by
  induction M with
  | nil => rfl
  | cons p M ih => rw [flat_cons, List.length_append, ih, List.length_cons]; simp [five]; omega
theorem flat_get (M : List (TolP × Value)) : ∀ (i j : Nat), j < 5 → (flat M)[i * 5 + j]? = (M[i]?).bind fun p => (five p)[j]? := by
  induction M with
  | nil => intro i j _; simp [flat]
  | cons p M ih =>
    intro i j hj
    rw [flat_cons]
    cases i with
    | zero =>
      rw [List.getElem?_append_left (by simp [five]; omega)]
      simp
    | succ i =>
      rw [List.getElem?_append_right (by simp [five]; omega)]
      have e : (i + 1) * 5 + j - (five p).length = i * 5 + j := by simp [five]; omega
      rw [e, ih i j hj]
      simp

/-- The row's reading: each pointer leads to an int64 or is nil. -/
def Secs (w : World) (M : List (TolP × Value)) : Prop := ∀ p ∈ M, SecAt w p.2
theorem Secs.below {w w' : World} {M : List (TolP × Value)} (h : Secs w M) (hb : Below w.heap.size w w') : Secs w' M := fun p hp => (h p hp).below hb
theorem Secs.append {w : World} {M N : List (TolP × Value)} (h : Secs w M) (h' : Secs w N) : Secs w (M ++ N) := fun p hp => by
  rcases List.mem_append.1 hp with h1 | h1
  · exact h p h1
  · exact h' p h1
theorem Secs.take {w : World} {M : List (TolP × Value)} (h : Secs w M) (n : Nat) : Secs w (M.take n) := fun p hp => h p (List.mem_of_mem_take hp)
theorem Secs.drop {w : World} {M : List (TolP × Value)} (h : Secs w M) (n : Nat) : Secs w (M.drop n) := fun p hp => h p (List.mem_of_mem_drop hp)

theorem flat_one {w : World} {M : List (TolP × Value)} (h : Secs w M) : ∀ u ∈ flat M, u.oneCell' = true := by
  intro u hu
  obtain ⟨p, hp, hu⟩ := List.mem_flatMap.1 hu
  simp [five] at hu
  rcases hu with rfl | rfl | rfl | rfl | rfl
  · rfl
  · rfl
  · rfl
  · rfl
  · rcases h p hp with e | ⟨_, _, _, e, _⟩ <;> rw [e] <;> rfl

/-- The cells behind a slice of tolerations. -/
def CellsOf (w : World) (b : Option Addr) (M : List (TolP × Value)) : Prop :=
  ∀ i, i < M.length * 5 → ∃ b0 off, b = some ⟨b0, off, none⟩ ∧ b0 < w.heap.size ∧ w.cell? ⟨b0, off + i, none⟩ = (flat M)[i]?

instance : Inhabited Value := ⟨.pointer none⟩
theorem tols_pairs {w : World} {b : Option Addr} {L : List TolP} (h : TolsAt w b L) : ∃ M : List (TolP × Value), M.map (·.1) = L ∧ Secs w M ∧ CellsOf w b M := by
  have hx : ∀ i, ∃ c, i < L.length → ∃ b0 off, b = some ⟨b0, off, none⟩ ∧ w.cell? ⟨b0, off + i * 5 + 4, none⟩ = some c ∧ SecAt w c := by
    intro i
    by_cases hi : i < L.length
    · obtain ⟨b0, off, h1, h2, h3⟩ := h i hi
      obtain ⟨c, hc, hs⟩ := h3.c4
      exact ⟨c, fun _ => ⟨b0, off, h1, hc, hs⟩⟩
    · exact ⟨.pointer none, fun hh => absurd hh hi⟩
  obtain ⟨sec, hsec⟩ : ∃ sec : Nat → Value, ∀ i, i < L.length → ∃ b0 off, b = some ⟨b0, off, none⟩ ∧ w.cell? ⟨b0, off + i * 5 + 4, none⟩ = some (sec i) ∧ SecAt w (sec i) :=
    ⟨fun i => Classical.choose (hx i), fun i hi => Classical.choose_spec (hx i) hi⟩
  have hg : ∀ i, i < L.length → ((List.range L.length).map fun i => (L.getD i tolZ, sec i))[i]? = some (L.getD i tolZ, sec i) := fun i hi => by simp [hi]
  refine ⟨(List.range L.length).map fun i => (L.getD i tolZ, sec i), ?_, ?_, ?_⟩
  · apply List.ext_getElem?
    intro i
    by_cases hi : i < L.length
    · simp [hi, List.getD_eq_getElem?_getD]
    · simp [hi]
  · intro p hp
    obtain ⟨i, hi, rfl⟩ := List.mem_map.1 hp
    obtain ⟨_, _, _, _, hs⟩ := hsec i (by simpa using hi)
    exact hs
  · intro i hi
    simp at hi
    have hq : i / 5 < L.length := by omega
    obtain ⟨b0, off, h1, h2, h3⟩ := h (i / 5) hq
    obtain ⟨b1, off1, g1, g2, _⟩ := hsec (i / 5) hq
    rw [h1] at g1
    simp at g1
    obtain ⟨rfl, rfl⟩ := g1
    refine ⟨b0, off, h1, h2, ?_⟩
    have e : i = i / 5 * 5 + i % 5 := by omega
    have hr : i % 5 < 5 := Nat.mod_lt _ (by decide)
    generalize hq' : i / 5 = q at *
    generalize hr' : i % 5 = r at *
    subst e
    rw [flat_get _ q r hr, hg q hq]
    match r, hr with
    | 0, _ => exact h3.c0
    | 1, _ => exact h3.c1
    | 2, _ => exact h3.c2
    | 3, _ => exact h3.c3
    | 4, _ => exact g2

theorem CellsOf.below {w w' : World} {b : Option Addr} {M : List (TolP × Value)} (h : CellsOf w b M) (hb : Below w.heap.size w w') : CellsOf w' b M := fun i hi => by
  obtain ⟨b0, off, h1, h2, h3⟩ := h i hi
  exact ⟨b0, off, h1, Nat.lt_of_lt_of_le h2 hb.size, by rw [hb.cell (by exact h2)]; exact h3⟩

/-- What lies behind the slice's first elements. -/
theorem cells_take {w : World} {b ao : Option Addr} {M : List (TolP × Value)} (h : CellsOf w b M) (n c : Nat) (hn : n ≤ M.length) (hc : M.length ≤ c) (hao : ¬ c = 0 → ao = b.map (·.add 0)) :
    ∀ ad, ao = some ad → ∀ j u, (flat (M.take n))[j]? = some u → w.cell? (ad.add j) = some u := by
  intro ad had j u hu
  have hj := (List.getElem?_eq_some_iff.1 hu).1
  rw [flat_len, List.length_take] at hj
  obtain ⟨b0, off, rfl, _, h3⟩ := h j (by omega)
  rw [hao (by omega)] at had
  simp only [Option.map_some, Option.some.injEq] at had
  subst had
  have e : flat M = flat (M.take n) ++ flat (M.drop n) := by rw [← flat_append, List.take_append_drop]
  rw [Addr.add_lit, Addr.add_lit, Nat.add_zero, h3, e, List.getElem?_append_left (by rw [flat_len, List.length_take]; omega), hu]

/-- What lies behind the slice's last elements. -/
theorem cells_drop {w : World} {b ao : Option Addr} {M : List (TolP × Value)} (h : CellsOf w b M) (n c : Nat) (hn : n ≤ M.length) (hc : M.length ≤ c) (hao : ¬ c = n → ao = b.map (·.add (n * 5))) :
    ∀ ad, ao = some ad → ∀ j u, (flat (M.drop n))[j]? = some u → w.cell? (ad.add j) = some u := by
  intro ad had j u hu
  have hj := (List.getElem?_eq_some_iff.1 hu).1
  rw [flat_len, List.length_drop] at hj
  obtain ⟨b0, off, rfl, _, h3⟩ := h (n * 5 + j) (by omega)
  rw [hao (by omega)] at had
  simp only [Option.map_some, Option.some.injEq] at had
  subst had
  have e : flat M = flat (M.take n) ++ flat (M.drop n) := by rw [← flat_append, List.take_append_drop]
  have hl : (flat (M.take n)).length = n * 5 := by rw [flat_len, List.length_take]; omega
  rw [Addr.add_lit, Addr.add_lit, Nat.add_assoc, h3, e, List.getElem?_append_right (by omega), hl, Nat.add_sub_cancel_left, hu]

/-- A row of the call's own, read as tolerations. -/
theorem tols_of_row {w : World} {base g cap n : Nat} {M : List (TolP × Value)} (hn : n = M.length) (h : w.ownsRow base 32 5 (.slice (some ⟨g, 0, none⟩) n cap) n (flat M)) (hs : Secs w M) : TolsAt w (some ⟨g, 0, none⟩) (M.map (·.1)) := by
  subst hn
  have key : ∀ i j, i < M.length → j < 5 → w.cell? ⟨g, i * 5 + j, none⟩ = (M[i]?).bind fun p => (five p)[j]? := fun i j hi hj => by
    rw [h.cellAt _ (by omega), flat_get _ _ _ hj]
  intro i hi
  simp at hi
  have hM : M[i]? = some M[i] := by simp [hi]
  have hL : (M.map (·.1)).getD i tolZ = (M[i]).1 := by simp [List.getD_eq_getElem?_getD, hi]
  have k0 := key i 0 hi (by decide)
  have k1 := key i 1 hi (by decide)
  have k2 := key i 2 hi (by decide)
  have k3 := key i 3 hi (by decide)
  have k4 := key i 4 hi (by decide)
  rw [hM] at k0 k1 k2 k3 k4
  refine ⟨g, 0, rfl, World.block_lt_of_cell? _ _ k0, ?_⟩
  rw [hL, Nat.zero_add]
  exact ⟨k0, k1, k2, k3, _, k4, hs _ (List.getElem_mem hi)⟩

/-! ### The verdict on the grown list -/
def tolE : TolP := ⟨⟨#[]⟩, ⟨#[69, 120, 105, 115, 116, 115]⟩, ⟨#[]⟩, ⟨#[]⟩⟩
theorem tolE_ok : tol1 tolE = true := by kernel_rfl
def grown (L : List TolP) (n : Nat) : List TolP := L.take n ++ ([tolE] ++ L.drop n)
theorem grown_len (L : List TolP) (n : Nat) : (grown L n).length = L.length + 1 := by simp [grown]; omega
theorem grown_all (L : List TolP) (n : Nat) : (grown L n).all tol1 = L.all tol1 := by
  have e : L.all tol1 = (L.take n ++ L.drop n).all tol1 := by rw [List.take_append_drop]
  rw [e, grown, List.all_append, List.all_append, List.all_append]
  simp [tolE_ok]
theorem grown_B (L : List TolP) (n : Nat) : tolsB (grown L n) = (tolsB L && decide (L.length < 16)) := by
  unfold tolsB
  rw [grown_len, grown_all]
  by_cases h : L.length < 16
  · simp [h, show L.length + 1 ≤ 16 by omega, show L.length ≤ 16 by omega]
  · simp [h, show ¬ L.length + 1 ≤ 16 by omega]
end Go.Proofs.Qxb6616224aFmt
