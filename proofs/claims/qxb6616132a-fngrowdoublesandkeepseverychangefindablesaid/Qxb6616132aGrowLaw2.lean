/-
  THE PLAIN LAW, MORE: what grow puts in is what was there (as a multiset), and each key lies where a linear probe from its home finds it.
-/
import Derived.Test.Qxb6616132aGrowLaw
namespace Go.Proofs.Qxb6616132a

def nzU (g : List Int) : List Int := g.filter (fun z => z != 0)

theorem nz_set (g : List Int) (j : Nat) (s : Int) (hj : j < g.length) (h0 : g.getD j 0 = 0) (hs : s ≠ 0) : (nzU (g.set j s)).Perm (s :: nzU g) := by
  have e : g[j] = 0 := by simpa [List.getD_eq_getElem?_getD, hj] using h0
  have e1 : g = g.take j ++ 0 :: g.drop (j + 1) := by
    rw [← e, List.getElem_cons_drop, List.take_append_drop]
  have e2 : g.set j s = g.take j ++ s :: g.drop (j + 1) := List.set_eq_take_append_cons_drop.trans (by rw [if_pos hj])
  unfold nzU
  rw [e2]
  conv => rhs; rw [e1]
  rw [List.filter_append, List.filter_append, List.filter_cons_of_pos (by simp [hs]), List.filter_cons_of_neg (by simp)]
  exact List.perm_middle

theorem nz_insU (home : Int → Nat) (g : List Int) (s : Int) (hc : cntU g < g.length) : (nzU (insU home g s)).Perm (nzU [s] ++ nzU g) := by
  by_cases h : s = 0
  · subst h; rw [insU_zero]; exact List.Perm.refl _
  · have := slot_free_U g (home s) hc
    unfold insU
    rw [if_neg h]
    have e : nzU [s] = [s] := by simp [nzU, h]
    rw [e]
    exact nz_set g _ s this.1 this.2 h

theorem nz_foldl (home : Int → Nat) (l : List Int) (g : List Int) (hc : cntU g + l.length ≤ g.length) : (nzU (l.foldl (insU home) g)).Perm (nzU l ++ nzU g) := by
  induction l generalizing g with
  | nil => exact List.Perm.refl _
  | cons s r ih =>
    simp only [List.length_cons] at hc
    have h1 := cnt_insU home g s (by omega)
    have h2 : (if s != 0 then 1 else 0) ≤ 1 := by split <;> omega
    rw [List.foldl_cons]
    refine (ih _ (by rw [insU_length]; omega)).trans ?_
    have e : nzU (s :: r) = nzU [s] ++ nzU r := by
      show nzU ([s] ++ r) = _
      unfold nzU
      rw [List.filter_append]
    rw [e]
    refine ((nz_insU home g s (by omega)).append_left _).trans ?_
    rw [← List.append_assoc]
    exact List.perm_append_comm.append_right _

theorem nz_growU (home : Int → Nat) (m : Nat) (old : List Int) (h : old.length ≤ m) : (nzU (growU home m old)).Perm (nzU old) := by
  unfold growU
  refine (nz_foldl home old _ (by rw [cnt_zeros]; simpa using h)).trans ?_
  have e : nzU (List.replicate m 0) = [] := by
    unfold nzU
    rw [List.filter_eq_nil_iff]
    intro z hz
    simp [List.eq_of_mem_replicate hz]
  rw [e, List.append_nil]

/-! ### Each key is found by a probe from its home -/
/-- Every slot from z's home up to the slot where z lies is taken. -/
def Findable (home : Int → Nat) (g : List Int) : Prop :=
  ∀ j, j < g.length → g.getD j 0 ≠ 0 → ∃ D, D < g.length ∧ (home (g.getD j 0) + D) % g.length = j ∧ ∀ d, d ≤ D → g.getD ((home (g.getD j 0) + d) % g.length) 0 ≠ 0

theorem getD_set (g : List Int) (k i : Nat) (v : Int) (h : i < g.length) : (g.set k v).getD i 0 = if k = i then v else g.getD i 0 := by
  simp only [List.getD_eq_getElem?_getD, List.getElem?_set]
  by_cases e : k = i
  · subst e; simp [h]
  · simp [e]

theorem find_insU (home : Int → Nat) (g : List Int) (s : Int) (hc : cntU g < g.length) (hF : Findable home g) : Findable home (insU home g s) := by
  by_cases h : s = 0
  · subst h; rw [insU_zero]; exact hF
  · have hfree := free_of_cnt g hc
    have hgap := gapO_lt (occ g) (home s) hfree
    have hsl := slot_free_U g (home s) hc
    obtain ⟨k, hk⟩ : ∃ k, slotO (occ g) (home s) = k := ⟨_, rfl⟩
    have hins : insU home g s = g.set k s := by unfold insU; rw [if_neg h, hk]
    have hkD : (home s + gapO (occ g) (home s)) % g.length = k := by rw [← hk]; unfold slotO; rw [occ_length]
    rw [hk] at hsl
    rw [occ_length] at hgap
    rw [hins]
    intro j hj hz
    rw [List.length_set] at hj ⊢
    rw [getD_set g k j s hj] at hz ⊢
    have taken : ∀ i, i < g.length → (i = k ∨ g.getD i 0 ≠ 0) → (g.set k s).getD i 0 ≠ 0 := by
      intro i hi hor
      rw [getD_set g k i s hi]
      split
      · exact h
      · rcases hor with e | e
        · exact absurd e.symm ‹_›
        · exact e
    by_cases e : k = j
    · subst e
      rw [if_pos rfl] at hz ⊢
      refine ⟨gapO (occ g) (home s), hgap.1, hkD, ?_⟩
      intro d hd
      have hm : (home s + d) % g.length < g.length := Nat.mod_lt _ (by omega)
      refine taken _ hm ?_
      rcases Nat.lt_or_eq_of_le hd with hd | hd
      · right
        have := gapO_min (occ g) (home s) d hd
        rw [occ_length, occ_getD g _ hm] at this
        simpa using this
      · left; rw [hd]; exact hkD
    · rw [if_neg e] at hz ⊢
      obtain ⟨D, h1, h2, h3⟩ := hF j hj hz
      exact ⟨D, h1, h2, fun d hd => taken _ (Nat.mod_lt _ (by omega)) (.inr (h3 d hd))⟩

theorem find_foldl (home : Int → Nat) (l : List Int) (g : List Int) (hc : cntU g + l.length ≤ g.length) (hF : Findable home g) : Findable home (l.foldl (insU home) g) := by
  induction l generalizing g with
  | nil => exact hF
  | cons s r ih =>
    simp only [List.length_cons] at hc
    have h1 := cnt_insU home g s (by omega)
    have h2 : (if s != 0 then 1 else 0) ≤ 1 := by split <;> omega
    rw [List.foldl_cons]
    exact ih _ (by rw [insU_length]; omega) (find_insU home g s (by omega) hF)

theorem find_growU (home : Int → Nat) (m : Nat) (old : List Int) (h : old.length ≤ m) : Findable home (growU home m old) := by
  unfold growU
  refine find_foldl home old _ (by rw [cnt_zeros]; simpa using h) ?_
  intro j hj hz
  rw [List.length_replicate] at hj
  exact absurd (by simp [List.getD_eq_getElem?_getD, hj]) hz

theorem mod_cancel (a b r m : Nat) (h : (a + r) % m = (b + r) % m) : a % m = b % m := by
  have h' : ((a : Int) + r) % m = ((b : Int) + r) % m := by
    have := congrArg (fun x : Nat => (x : Int)) h
    simpa using this
  have := (Int.emod_add_cancel_right (r : Int)).1 h'
  have e : ((a % m : Nat) : Int) = ((b % m : Nat) : Int) := by simpa using this
  omega

/-- The probe's test: the run of taken slots that ends at j reaches back at least to z's home. e is empty; s steps from e on lies j; the slot r steps before j is empty. -/
theorem probe_test {home : Int → Nat} {g : List Int} {m : Nat} (hl : g.length = m) (hF : Findable home g) {e s r j : Nat} (hs : r ≤ s) (hj : j < m) (hje : j = (e + s) % m) (he : g.getD ((e + (s - r)) % m) 0 = 0) (hz : g.getD j 0 ≠ 0)
    {D : Nat} (hD : D < m) (hDj : (home (g.getD j 0) + D) % m = j) : D < r := by
  rcases Nat.lt_or_ge D r with h | h
  · exact h
  · exfalso
    subst hl
    obtain ⟨D', h1, h2, h3⟩ := hF j hj hz
    have eD : D' = D := by
      have hm : 0 < g.length := by omega
      have a1 := Nat.div_add_mod (home (g.getD j 0) + D') g.length
      have a2 := Nat.div_add_mod (home (g.getD j 0) + D) g.length
      rw [h2] at a1
      rw [hDj] at a2
      generalize (home (g.getD j 0) + D') / g.length = q1 at a1
      generalize (home (g.getD j 0) + D) / g.length = q2 at a2
      rcases Nat.lt_trichotomy q1 q2 with h | h | h
      · have : g.length * (q1 + 1) ≤ g.length * q2 := Nat.mul_le_mul_left _ h
        rw [Nat.mul_add] at this
        omega
      · subst h; omega
      · have : g.length * (q2 + 1) ≤ g.length * q1 := Nat.mul_le_mul_left _ h
        rw [Nat.mul_add] at this
        omega
    subst eD
    refine h3 (D' - r) (by omega) ?_
    have ee : (home (g.getD j 0) + (D' - r)) % g.length = (e + (s - r)) % g.length := by
      have key : (home (g.getD j 0) + D') % g.length = (e + s) % g.length := by rw [h2, hje]
      have k1 : (home (g.getD j 0) + (D' - r) + r) % g.length = (e + (s - r) + r) % g.length := by
        rw [show home (g.getD j 0) + (D' - r) + r = home (g.getD j 0) + D' by omega, show e + (s - r) + r = e + s by omega]
        exact key
      exact mod_cancel _ _ _ _ k1
    rw [ee]
    exact he

end Go.Proofs.Qxb6616132a
