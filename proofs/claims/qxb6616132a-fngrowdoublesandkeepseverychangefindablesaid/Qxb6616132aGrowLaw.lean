/-
  THE PLAIN LAW beneath grow: LINEAR PROBING. Tables are lists of numbers, 0 where empty. No Go in sight.
-/
import Derived.WalkKit
namespace Go.Proofs.Qxb6616132a

/-! ### The occupied slots alone: lists of Bools -/
/-- How far from s the first free slot lies (the length where there is none). -/
def gapO (o : List Bool) (s : Nat) : Nat := (List.range o.length).findIdx (fun d => !(o.getD ((s + d) % o.length) true))
/-- The first free slot from s on. -/
def slotO (o : List Bool) (s : Nat) : Nat := (s + gapO o s) % o.length
/-- A key whose home is h is put in. -/
def addO (o : List Bool) (h : Nat) : List Bool := o.set (slotO o h) true

def FreeO (o : List Bool) : Prop := ∃ j, j < o.length ∧ o.getD j true = false

theorem reach (m s j : Nat) (hj : j < m) : ∃ d, d < m ∧ (s + d) % m = j := by
  refine ⟨(j + (m - s % m)) % m, Nat.mod_lt _ (by omega), ?_⟩
  have hs : s % m < m := Nat.mod_lt _ (by omega)
  rw [Nat.add_mod_mod]
  have e : (s + (j + (m - s % m))) % m = (s % m + (j + (m - s % m))) % m := (Nat.mod_add_mod _ _ _).symm
  rw [e, show s % m + (j + (m - s % m)) = j + m by omega, Nat.add_mod_right, Nat.mod_eq_of_lt hj]

theorem gapO_lt (o : List Bool) (s : Nat) (h : FreeO o) : gapO o s < o.length ∧ o.getD ((s + gapO o s) % o.length) true = false := by
  obtain ⟨j, hj, hf⟩ := h
  obtain ⟨d, hd, he⟩ := reach o.length s j hj
  have hlt : gapO o s < (List.range o.length).length := by
    refine List.findIdx_lt_length_of_exists ⟨d, by simpa using hd, ?_⟩
    simp only [he, hf]; rfl
  refine ⟨by simpa using hlt, ?_⟩
  have hlt' : (List.range o.length).findIdx (fun d => !(o.getD ((s + d) % o.length) true)) < (List.range o.length).length := hlt
  have := @List.findIdx_getElem Nat (fun d => !(o.getD ((s + d) % o.length) true)) (List.range o.length) hlt'
  rw [List.getElem_range] at this
  unfold gapO
  simpa using this

theorem gapO_min (o : List Bool) (s d : Nat) (h : d < gapO o s) : o.getD ((s + d) % o.length) true = true := by
  have := @List.not_of_lt_findIdx Nat (fun d => !(o.getD ((s + d) % o.length) true)) (List.range o.length) d h
  simp only [List.getElem_range] at this
  simpa using this

theorem gapO_uniq (o : List Bool) (s d : Nat) (hd : d < o.length) (hf : o.getD ((s + d) % o.length) true = false) (ht : ∀ e, e < d → o.getD ((s + e) % o.length) true = true) : gapO o s = d := by
  have hF : FreeO o := ⟨(s + d) % o.length, Nat.mod_lt _ (by omega), hf⟩
  have h1 := gapO_lt o s hF
  rcases Nat.lt_trichotomy (gapO o s) d with h | h | h
  · have := ht _ h; rw [h1.2] at this; cases this
  · exact h
  · have := gapO_min o s d h; rw [hf] at this; cases this

theorem slotO_lt (o : List Bool) (s : Nat) (h : 0 < o.length) : slotO o s < o.length := Nat.mod_lt _ h
theorem slotO_free (o : List Bool) (s : Nat) (h : FreeO o) : o.getD (slotO o s) true = false := (gapO_lt o s h).2

/-- The slot itself is free. -/
theorem slotO_here (o : List Bool) (s : Nat) (h : 0 < o.length) (hf : o.getD (s % o.length) true = false) : slotO o s = s % o.length := by
  have := gapO_uniq o s 0 h (by simpa using hf) (fun e he => absurd he (by omega))
  simp [slotO, this]

theorem gapO_step (o : List Bool) (s : Nat) (h : FreeO o) (ht : o.getD (s % o.length) true = true) : gapO o s = gapO o (s + 1) + 1 := by
  have h1 := gapO_lt o s h
  have hpos : gapO o s ≠ 0 := by
    intro e; rw [e] at h1; simp only [Nat.add_zero] at h1; rw [ht] at h1; exact absurd h1.2 (by simp)
  have e : gapO o (s + 1) = gapO o s - 1 := by
    refine gapO_uniq o (s + 1) _ (by omega) ?_ ?_
    · rw [show s + 1 + (gapO o s - 1) = s + gapO o s by omega]; exact h1.2
    · intro d hd
      rw [show s + 1 + d = s + (d + 1) by omega]
      exact gapO_min o s (d + 1) (by omega)
  omega

theorem slotO_step (o : List Bool) (s : Nat) (h : FreeO o) (ht : o.getD (s % o.length) true = true) : slotO o (s + 1) = slotO o s := by
  unfold slotO
  rw [gapO_step o s h ht]
  congr 1; omega

theorem gapO_mod (o : List Bool) (s : Nat) : gapO o (s % o.length) = gapO o s := by
  unfold gapO
  congr 1
  funext d
  rw [Nat.mod_add_mod]
theorem slotO_mod (o : List Bool) (s : Nat) : slotO o (s % o.length) = slotO o s := by
  unfold slotO
  rw [gapO_mod, Nat.mod_add_mod]

theorem slotO_skip (o : List Bool) (s D : Nat) (h : FreeO o) (ht : ∀ d, d < D → o.getD ((s + d) % o.length) true = true) : slotO o (s + D) = slotO o s := by
  induction D with
  | zero => rfl
  | succ D ih =>
    rw [← Nat.add_assoc, slotO_step o (s + D) h (ht D (by omega))]
    exact ih (fun d hd => ht d (by omega))

theorem getD_setB (o : List Bool) (k i : Nat) : (o.set k true).getD i true = if k = i then true else o.getD i true := by
  simp only [List.getD_eq_getElem?_getD, List.getElem?_set]
  by_cases e : k = i
  · subst e; simp; split <;> simp_all
  · simp [e]

theorem set_same (o : List Bool) (k : Nat) (h : o.getD k true = true) : o.set k true = o := by
  apply List.ext_getElem (by simp)
  intro i h1 h2
  rw [List.getElem_set]
  split
  · rename_i e; subst e; simpa [List.getD_eq_getElem?_getD, h2] using h.symm
  · rfl

theorem not_free (o : List Bool) (h : ¬ FreeO o) (j : Nat) : o.getD j true = true := by
  by_cases hj : j < o.length
  · cases e : o.getD j true with
    | true => rfl
    | false => exact absurd ⟨j, hj, e⟩ h
  · simp [List.getD_eq_getElem?_getD, Nat.le_of_not_lt hj]

theorem addO_full (o : List Bool) (a : Nat) (h : ¬ FreeO o) : addO o a = o := set_same _ _ (not_free o h _)

theorem addO_length (o : List Bool) (a : Nat) : (addO o a).length = o.length := by simp [addO]

/-- THE ORDER OF TWO KEYS DOES NOT MATTER. -/
theorem addO_comm (o : List Bool) (a b : Nat) : addO (addO o a) b = addO (addO o b) a := by
  by_cases hF : FreeO o
  · have ha := gapO_lt o a hF
    have hb := gapO_lt o b hF
    by_cases e : slotO o a = slotO o b
    · -- both come to one slot
      have eo : addO o a = addO o b := by unfold addO; rw [e]
      rw [← eo]
      by_cases hF' : FreeO (addO o a)
      · have hl : (addO o a).length = o.length := addO_length o a
        have key : ∀ c, slotO o c = slotO o a → slotO (addO o a) c = slotO (addO o a) (slotO o a) := by
          intro c hc
          have h1 := slotO_skip (addO o a) c (gapO o c) hF' ?_
          · rw [← h1]
            rw [← slotO_mod (addO o a) (c + gapO o c), hl]
            exact congrArg _ hc
          · intro d hd
            rw [hl]
            unfold addO
            rw [getD_setB]
            split
            · rfl
            · exact gapO_min o c d hd
        have k1 := key a rfl
        have k2 := key b e.symm
        show (addO o a).set (slotO (addO o a) b) true = (addO o a).set (slotO (addO o a) a) true
        rw [k1, k2]
      · rw [addO_full _ _ hF', addO_full _ _ hF']
    · -- two slots
      have key : ∀ x y, slotO o x ≠ slotO o y → slotO (addO o x) y = slotO o y := by
        intro x y hxy
        have hy := gapO_lt o y hF
        have hl : (addO o x).length = o.length := addO_length o x
        have : gapO (addO o x) y = gapO o y := by
          refine gapO_uniq _ _ _ (by rw [hl]; exact hy.1) ?_ ?_
          · rw [hl]; unfold addO; rw [getD_setB, if_neg (by exact hxy)]; exact hy.2
          · intro d hd
            rw [hl]; unfold addO; rw [getD_setB]
            split
            · rfl
            · exact gapO_min o y d hd
        unfold slotO
        rw [this, hl]
      have k1 := key a b e
      have k2 := key b a (fun h => e h.symm)
      show (addO o a).set (slotO (addO o a) b) true = (addO o b).set (slotO (addO o b) a) true
      rw [k1, k2]
      exact List.set_comm _ _ e
  · rw [addO_full o a hF, addO_full o b hF, addO_full o a hF]

theorem foldO_perm (l l' : List Nat) (h : l.Perm l') (o : List Bool) : l.foldl addO o = l'.foldl addO o :=
  h.foldl_eq' (fun x _ y _ z => addO_comm z x y) o

/-! ### The tables -/
def occ (g : List Int) : List Bool := g.map (fun z => z != 0)
def cntU (g : List Int) : Nat := g.countP (fun z => z != 0)
/-- s is put into g, if it is not 0, at the first free slot from its home on. -/
def insU (home : Int → Nat) (g : List Int) (s : Int) : List Int := if s = 0 then g else g.set (slotO (occ g) (home s)) s
/-- What grow makes of the old slots. -/
def growU (home : Int → Nat) (m : Nat) (old : List Int) : List Int := old.foldl (insU home) (List.replicate m 0)

theorem occ_length (g : List Int) : (occ g).length = g.length := by simp [occ]
theorem occ_getD (g : List Int) (i : Nat) (h : i < g.length) : (occ g).getD i true = (g.getD i 0 != 0) := by
  simp [occ, List.getD_eq_getElem?_getD, h]
theorem insU_length (home : Int → Nat) (g : List Int) (s : Int) : (insU home g s).length = g.length := by unfold insU; split <;> simp
theorem insU_zero (home : Int → Nat) (g : List Int) : insU home g 0 = g := by simp [insU]

theorem occ_insU (home : Int → Nat) (g : List Int) (s : Int) (h : s ≠ 0) : occ (insU home g s) = addO (occ g) (home s) := by
  unfold insU addO
  rw [if_neg h]
  unfold occ
  rw [List.map_set]
  congr 1
  simp [h]

theorem occ_foldl (home : Int → Nat) (l : List Int) (g : List Int) : occ (l.foldl (insU home) g) = ((l.filter (fun z => z != 0)).map home).foldl addO (occ g) := by
  induction l generalizing g with
  | nil => rfl
  | cons s r ih =>
    rw [List.foldl_cons, ih]
    by_cases h : s = 0
    · subst h; simp [insU_zero]
    · rw [occ_insU home g s h]; simp [h]

/-- THE SAME SLOTS ARE TAKEN WHATEVER THE OLD ORDER. -/
theorem occ_reverse (home : Int → Nat) (m : Nat) (old : List Int) : occ (growU home m old.reverse) = occ (growU home m old) := by
  unfold growU
  rw [occ_foldl, occ_foldl]
  refine foldO_perm _ _ ?_ _
  rw [List.filter_reverse, List.map_reverse]
  exact List.reverse_perm _

theorem foldl_length (home : Int → Nat) (l : List Int) (g : List Int) : (l.foldl (insU home) g).length = g.length := by
  induction l generalizing g with
  | nil => rfl
  | cons s r ih => rw [List.foldl_cons, ih, insU_length]
theorem growU_length (home : Int → Nat) (m : Nat) (old : List Int) : (growU home m old).length = m := by
  unfold growU; rw [foldl_length]; simp

theorem free_of_cnt (g : List Int) (h : cntU g < g.length) : FreeO (occ g) := by
  by_cases hF : FreeO (occ g)
  · exact hF
  · exfalso
    have : cntU g = g.length := by
      unfold cntU
      rw [List.countP_eq_length]
      intro z hz
      obtain ⟨i, hi, rfl⟩ := List.getElem_of_mem hz
      have h1 := not_free _ hF i
      rw [occ_getD g i hi] at h1
      simpa [List.getD_eq_getElem?_getD, hi] using h1
    omega

theorem cnt_set (g : List Int) (j : Nat) (s : Int) (hj : j < g.length) (h0 : g.getD j 0 = 0) (hs : s ≠ 0) : cntU (g.set j s) = cntU g + 1 := by
  have e : g[j] = 0 := by simpa [List.getD_eq_getElem?_getD, hj] using h0
  unfold cntU
  rw [List.countP_set hj]
  simp [e, hs]

theorem slot_free_U (g : List Int) (h : Nat) (hc : cntU g < g.length) : slotO (occ g) h < g.length ∧ g.getD (slotO (occ g) h) 0 = 0 := by
  have hF := free_of_cnt g hc
  have h1 : slotO (occ g) h < (occ g).length := slotO_lt _ _ (by rw [occ_length]; omega)
  have h2 := slotO_free _ h hF
  rw [occ_length] at h1
  rw [occ_getD g _ h1] at h2
  exact ⟨h1, by simpa using h2⟩

theorem cnt_insU (home : Int → Nat) (g : List Int) (s : Int) (hc : cntU g < g.length) : cntU (insU home g s) = cntU g + (if s != 0 then 1 else 0) := by
  unfold insU
  by_cases h : s = 0
  · simp [h]
  · rw [if_neg h]
    have := slot_free_U g (home s) hc
    rw [cnt_set g _ s this.1 this.2 h]
    simp [h]

theorem cnt_foldl (home : Int → Nat) (l : List Int) (g : List Int) (hc : cntU g + l.length ≤ g.length) : cntU (l.foldl (insU home) g) = cntU g + cntU l := by
  induction l generalizing g with
  | nil => simp [cntU]
  | cons s r ih =>
    simp only [List.length_cons] at hc
    have h1 := cnt_insU home g s (by omega)
    have h2 : (if s != 0 then 1 else 0) ≤ 1 := by split <;> omega
    rw [List.foldl_cons, ih _ (by rw [insU_length]; omega), h1]
    simp only [cntU, List.countP_cons]
    omega

theorem cnt_zeros (m : Nat) : cntU (List.replicate m 0) = 0 := by
  unfold cntU
  rw [List.countP_eq_zero]
  intro z hz
  simp [List.eq_of_mem_replicate hz]

theorem cnt_growU (home : Int → Nat) (m : Nat) (old : List Int) (h : old.length ≤ m) : cntU (growU home m old) = cntU old := by
  unfold growU
  rw [cnt_foldl _ _ _ (by rw [cnt_zeros]; simpa using h), cnt_zeros]
  omega

theorem cnt_le (l : List Int) : cntU l ≤ l.length := List.countP_le_length
theorem cnt_take (l : List Int) (k : Nat) (h : k < l.length) : cntU (l.take (k + 1)) = cntU (l.take k) + (if l.getD k 0 != 0 then 1 else 0) := by
  rw [List.take_succ_eq_append_getElem h]
  unfold cntU
  rw [List.countP_append]
  simp [List.getD_eq_getElem?_getD, h, List.countP_cons]

end Go.Proofs.Qxb6616132a
