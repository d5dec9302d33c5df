/-
  THE PLAIN LAW beneath FnWinsFoldIsOrderFree: no Go in sight. 'beatsB' is the map rule; 'best' keeps the winner; the fold of three is the same in all six orders.
-/
import Derived.WalkKit
namespace Go.Proofs.Qxb6616132a

/-- Go's '>' on strings, as the walk writes it. -/
def gtS (a b : ByteArray) : Bool := !Op.bytesLess a.toList b.toList && !(a.toList == b.toList)

structure Wn where
  v : ByteArray
  t : Int
  p : Bool

/-- 'winner.beats'. -/
def beatsB (x y : Wn) : Bool := if x.t ≠ y.t then decide (y.t < x.t) else if x.p ≠ y.p then x.p else gtS x.v y.v

/-- What is kept when x is offered against y. -/
def best (x y : Wn) : Wn := if beatsB x y = true then x else y

theorem u8_lt (a b : UInt8) : (a < b) ↔ a.toNat < b.toNat := UInt8.lt_iff_toNat_lt

theorem bl_irr (a : List UInt8) : Op.bytesLess a a = false := by
  induction a with
  | nil => rfl
  | cons x r ih => simp [Op.bytesLess, ih]

theorem bl_trans (a b c : List UInt8) (h1 : Op.bytesLess a b = true) (h2 : Op.bytesLess b c = true) : Op.bytesLess a c = true := by
  induction a generalizing b c with
  | nil =>
    cases b with
    | nil => simp [Op.bytesLess] at h1
    | cons y s => cases c with
      | nil => simp [Op.bytesLess] at h2
      | cons z u => simp [Op.bytesLess]
  | cons x r ih =>
    cases b with
    | nil => simp [Op.bytesLess] at h1
    | cons y s => cases c with
      | nil => simp [Op.bytesLess] at h2
      | cons z u =>
        simp only [Op.bytesLess, Bool.or_eq_true, decide_eq_true_eq, Bool.and_eq_true, beq_iff_eq] at h1 h2 ⊢
        rcases h1 with h1 | ⟨e1, h1⟩
        · rcases h2 with h2 | ⟨e2, h2⟩
          · left; rw [u8_lt] at *; omega
          · left; rw [← e2]; exact h1
        · rcases h2 with h2 | ⟨e2, h2⟩
          · left; rw [e1]; exact h2
          · right; exact ⟨e1.trans e2, ih s u h1 h2⟩

theorem bl_tri (a b : List UInt8) (h1 : Op.bytesLess a b = false) (h2 : Op.bytesLess b a = false) : a = b := by
  induction a generalizing b with
  | nil => cases b with
    | nil => rfl
    | cons y s => simp [Op.bytesLess] at h1
  | cons x r ih => cases b with
    | nil => simp [Op.bytesLess] at h2
    | cons y s =>
      simp only [Op.bytesLess, Bool.or_eq_false_iff, decide_eq_false_iff_not, Bool.and_eq_false_iff, beq_eq_false_iff_ne] at h1 h2
      obtain ⟨a1, b1⟩ := h1
      obtain ⟨a2, b2⟩ := h2
      have e : x = y := by
        rw [u8_lt] at a1 a2
        exact UInt8.toNat_inj.1 (by omega)
      subst e
      have c1 : Op.bytesLess r s = false := by rcases b1 with b1 | b1; · exact absurd rfl b1
                                               · exact b1
      have c2 : Op.bytesLess s r = false := by rcases b2 with b2 | b2; · exact absurd rfl b2
                                               · exact b2
      rw [ih s c1 c2]

theorem gtS_eq (a b : ByteArray) : gtS a b = Op.bytesLess b.toList a.toList := by
  unfold gtS
  generalize a.toList = x
  generalize b.toList = y
  cases h : Op.bytesLess x y with
  | true =>
    cases h' : Op.bytesLess y x with
    | true => have := bl_trans _ _ _ h h'; rw [bl_irr] at this; cases this
    | false => rfl
  | false =>
    cases h' : Op.bytesLess y x with
    | true =>
      have : ¬ x = y := by intro e; subst e; rw [bl_irr] at h'; cases h'
      simp [this]
    | false => have := bl_tri _ _ h h'; simp [this]

theorem ba_ext (a b : ByteArray) (h : a.toList = b.toList) : a = b := by
  rw [ByteArray.toList_eq, ByteArray.toList_eq] at h
  cases a; cases b
  simp at h
  rw [h]

theorem gtS_irr (a : ByteArray) : gtS a a = false := by rw [gtS_eq]; exact bl_irr _
theorem gtS_tri (a b : ByteArray) (h1 : gtS a b = false) (h2 : gtS b a = false) : a = b := by
  rw [gtS_eq] at h1 h2
  exact ba_ext _ _ (bl_tri _ _ h2 h1)
theorem gtS_trans (a b c : ByteArray) (h1 : gtS a b = true) (h2 : gtS b c = true) : gtS a c = true := by
  rw [gtS_eq] at *
  exact bl_trans _ _ _ h2 h1

theorem beats_irr (x : Wn) : beatsB x x = false := by simp [beatsB, gtS_irr]

theorem beats_tri (x y : Wn) (h1 : beatsB x y = false) (h2 : beatsB y x = false) : x = y := by
  obtain ⟨v1, t1, p1⟩ := x
  obtain ⟨v2, t2, p2⟩ := y
  simp only [beatsB] at h1 h2
  by_cases ht : t1 = t2
  · subst ht
    simp only [ne_eq, not_true_eq_false, if_false] at h1 h2
    by_cases hp : p1 = p2
    · subst hp
      simp only [not_true_eq_false, if_false] at h1 h2
      rw [gtS_tri v1 v2 h1 h2]
    · have hp' : ¬ p2 = p1 := fun e => hp e.symm
      simp only [hp, hp', not_false_eq_true, if_true] at h1 h2
      exact absurd (h1.trans h2.symm) hp
  · have ht' : ¬ t2 = t1 := fun e => ht e.symm
    simp only [ne_eq, ht, ht', not_false_eq_true, if_true, decide_eq_false_iff_not] at h1 h2
    omega

theorem beats_trans (x y z : Wn) (h1 : beatsB x y = true) (h2 : beatsB y z = true) : beatsB x z = true := by
  obtain ⟨v1, t1, p1⟩ := x
  obtain ⟨v2, t2, p2⟩ := y
  obtain ⟨v3, t3, p3⟩ := z
  simp only [beatsB] at h1 h2 ⊢
  by_cases h12 : t1 = t2
  · subst h12
    by_cases h23 : t1 = t3
    · subst h23
      simp only [ne_eq, not_true_eq_false, if_false] at h1 h2 ⊢
      cases p1 <;> cases p2 <;> cases p3 <;> simp_all
      · exact gtS_trans _ _ _ h1 h2
      · exact gtS_trans _ _ _ h1 h2
    · simp only [ne_eq, h23, not_false_eq_true, if_true] at h2 ⊢
      exact h2
  · simp only [ne_eq, h12, not_false_eq_true, if_true, decide_eq_true_eq] at h1
    by_cases h23 : t2 = t3
    · subst h23
      simp only [ne_eq, h12, not_false_eq_true, if_true, decide_eq_true_eq]
      exact h1
    · simp only [ne_eq, h23, not_false_eq_true, if_true, decide_eq_true_eq] at h2
      have : ¬ t1 = t3 := by omega
      simp only [ne_eq, this, not_false_eq_true, if_true, decide_eq_true_eq]
      omega

/-- m beats or equals u. -/
theorem le_trans' (u m n : Wn) (h1 : beatsB u m = false) (h2 : beatsB m n = false) : beatsB u n = false := by
  cases h : beatsB u n with
  | false => rfl
  | true =>
    cases hm : beatsB m u with
    | true => have := beats_trans _ _ _ hm h; rw [h2] at this; cases this
    | false => have e := beats_tri u m h1 hm; subst e; rw [h2] at h; cases h

theorem best_or (x y : Wn) : best x y = x ∨ best x y = y := by unfold best; split <;> simp
theorem best_l (x y : Wn) : beatsB x (best x y) = false := by
  unfold best; split
  · exact beats_irr x
  · rename_i h; exact Bool.eq_false_iff.2 h
theorem best_r (x y : Wn) : beatsB y (best x y) = false := by
  unfold best; split
  · rename_i h
    cases h' : beatsB y x with
    | false => rfl
    | true => have := beats_trans _ _ _ h h'; rw [beats_irr] at this; cases this
  · exact beats_irr y

/-- The fold of three: x first, then y, then z. -/
def fold3 (x y z : Wn) : Wn := best z (best y x)

theorem fold3_x (x y z : Wn) : beatsB x (fold3 x y z) = false := le_trans' _ _ _ (best_r y x) (best_r z _)
theorem fold3_y (x y z : Wn) : beatsB y (fold3 x y z) = false := le_trans' _ _ _ (best_l y x) (best_r z _)
theorem fold3_z (x y z : Wn) : beatsB z (fold3 x y z) = false := best_l z _
theorem fold3_or (x y z : Wn) : fold3 x y z = x ∨ fold3 x y z = y ∨ fold3 x y z = z := by
  unfold fold3
  rcases best_or z (best y x) with h | h
  · exact .inr (.inr h)
  · rcases best_or y x with h' | h'
    · exact .inr (.inl (h.trans h'))
    · exact .inl (h.trans h')

/-- Whoever is one of them and is beaten by none of them is the fold. -/
theorem fold3_uniq (x y z m : Wn) (hm : m = x ∨ m = y ∨ m = z) (hx : beatsB x m = false) (hy : beatsB y m = false) (hz : beatsB z m = false) : fold3 x y z = m := by
  refine beats_tri _ _ ?_ ?_
  · rcases fold3_or x y z with h | h | h <;> rw [h] <;> assumption
  · rcases hm with h | h | h <;> rw [h]
    · exact fold3_x x y z
    · exact fold3_y x y z
    · exact fold3_z x y z

theorem fold_acb (a b c : Wn) : fold3 a c b = fold3 a b c := fold3_uniq _ _ _ _ (by have := fold3_or a b c; rcases this with h | h | h <;> simp [h]) (fold3_x a b c) (fold3_z a b c) (fold3_y a b c)
theorem fold_bac (a b c : Wn) : fold3 b a c = fold3 a b c := fold3_uniq _ _ _ _ (by have := fold3_or a b c; rcases this with h | h | h <;> simp [h]) (fold3_y a b c) (fold3_x a b c) (fold3_z a b c)
theorem fold_bca (a b c : Wn) : fold3 b c a = fold3 a b c := fold3_uniq _ _ _ _ (by have := fold3_or a b c; rcases this with h | h | h <;> simp [h]) (fold3_y a b c) (fold3_z a b c) (fold3_x a b c)
theorem fold_cab (a b c : Wn) : fold3 c a b = fold3 a b c := fold3_uniq _ _ _ _ (by have := fold3_or a b c; rcases this with h | h | h <;> simp [h]) (fold3_z a b c) (fold3_x a b c) (fold3_y a b c)
theorem fold_cba (a b c : Wn) : fold3 c b a = fold3 a b c := fold3_uniq _ _ _ _ (by have := fold3_or a b c; rcases this with h | h | h <;> simp [h]) (fold3_z a b c) (fold3_y a b c) (fold3_x a b c)

theorem not_beats_t (u m : Wn) (h : beatsB u m = false) : u.t ≤ m.t := by
  unfold beatsB at h
  by_cases e : u.t = m.t
  · omega
  · simp only [ne_eq, e, not_false_eq_true, if_true, decide_eq_false_iff_not] at h
    omega
theorem fold_t1 (a b c : Wn) : a.t ≤ (fold3 a b c).t := not_beats_t _ _ (fold3_x a b c)
theorem fold_t2 (a b c : Wn) : b.t ≤ (fold3 a b c).t := not_beats_t _ _ (fold3_y a b c)
theorem fold_t3 (a b c : Wn) : c.t ≤ (fold3 a b c).t := not_beats_t _ _ (fold3_z a b c)

end Go.Proofs.Qxb6616132a
