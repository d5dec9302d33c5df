/-
  THE WALK of ZZselectionLen.
-/
import Derived.Test.Qxb6616426aI4
import Derived.Deep.RegionLaw
namespace Go.Proofs.Qxb6616426a
open Go.RowKit

/-- A row of ints of one length with another. -/
def IntsAt (w : World) (v : Value) (n : Nat) : Prop :=
  ∃ a c, v = .slice a n c ∧ ∀ i, i < n → ∃ b off z, a = some ⟨b, off, none⟩ ∧ b < w.heap.size ∧ w.cell? ⟨b, off + i, none⟩ = some (.int .i64 z)
theorem IntsAt.below {w w' : World} {v : Value} {n : Nat} (h : IntsAt w v n) (hb : Below w.heap.size w w') : IntsAt w' v n := by
  obtain ⟨a, c, e, h⟩ := h
  refine ⟨a, c, e, fun i hi => ?_⟩
  obtain ⟨b, off, z, h1, h2, h3⟩ := h i hi
  exact ⟨b, off, z, h1, Nat.lt_of_lt_of_le h2 hb.size, by rw [hb.cell (by exact h2)]; exact h3⟩

theorem step_append_own {P : Program} {ops : Array Oper} {o : Oper} {a : Act} {w : World} {K : Act → World → Prop} {Q : Exit → Act → World → Prop} {E : Prop}
    (hg : o.guard = none) (s x : Operand) (t : TypeId) (hop : o.op = Op.call { callee := Callee.builtin Builtin.append, args := #[s, x], argTypes := #[t, t] })
    (base : Nat) (e : TypeId) (i : TypeInfo) (z : Value) (size bytes : Nat) (ht : P.underlying t = some (.slice e)) (hi : P.info? e = some i) (hz : i.zero = some z) (hsize : i.size = size) (hby : i.bytes = bytes) (hzs : z.cells.size = size) (hsz : 0 < size)
    (v : Value) (n : Nat) (xs : List Value) (hs : a.eval s = v) (hown : w.ownsRow base e size v n xs)
    (ad : Addr) (m c : Nat) (news : List Value) (hx : a.eval x = .slice (some ad) m c) (hl : news.length = m * size) (hnews : ∀ j u, news[j]? = some u → w.cell? (ad.add j) = some u) (h1 : ∀ u ∈ news, u.oneCell' = true)
    (h63 : n + m ≤ maxLen) (hbytes : (n + m) * bytes ≤ 140737488355328) (hbase : base ≤ w.heap.size)
    (hK : ∀ v' w', w'.ownsRow base e size v' (n + m) (xs ++ news) → w.grownBy w' v.ownBlock → K (a.put o.dst v') w') :
    if Region.wanted o (yielded ops a.tmps) = true then Oper.wp P o a w K Q else E := by
  have hw : Region.wanted o (yielded ops a.tmps) = true := by simp [Region.wanted, hg]
  rw [if_pos hw]
  exact wp_append_own w s x t hop base e i z size bytes ht hi hz hsize hby hzs hsz v n xs hs hown ad m c news hx hl hnews h1 h63 hbytes hbase fun v' w' h2 h3 _ => hK v' w' h2 h3
end Go.Proofs.Qxb6616426a
