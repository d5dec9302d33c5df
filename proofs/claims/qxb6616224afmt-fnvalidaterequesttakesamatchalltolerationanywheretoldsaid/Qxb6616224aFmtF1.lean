/-
  THE WALKS of overLimit, tolerationOK, isEffect and validate.
-/
import Derived.Test.Qxb6616224aFmtF0
import Derived.WalkKit
import Derived.WalkSpells
import Derived.WalkLawsBesides
import Derived.Deep.Light
namespace Go.Proofs.Qxb6616224aFmt
open Go.RowKit Go.Extern.Stop Go.Stop Go.Extern
attribute [local go_sem] call17 guard17 f0 f0r f1 f1r f2 f2r f3 f3r f4 f4r f5 f5r f6 f6r op3_100 op9_115 op9_113

theorem ret_bool {a b : Bool} (h : a = b) : Ending.returned (.bool a) = .returned (.bool b) := by rw [h]

set_option maxRecDepth 4000 in
set_option maxHeartbeats 400000 in
theorem overLimit_any (F : Interp) (fld : ByteArray) (n : Int) (th : ByteArray) (lim : Int) (w : World) (hF : F.answers w.tape) :
    Calls Tryf.prog 16 #[.string fld, .int .i64 n, .string th, .int .i64 lim] w fun e w' => ∃ p, e = .returned (.pointer (some p)) ∧ Below w.heap.size w w' := by
  have hF' := answers_open hF
  go_enter Tryf.func16, Tryf.ntmps16
  go_wp2
  go_ret
  exact ⟨_, rfl, (((Below.refl _ _).alloc (Nat.le_refl _) _).alloc (by simp) _).drew⟩

def bEqual : List UInt8 := [69, 113, 117, 97, 108]
def bExists : List UInt8 := [69, 120, 105, 115, 116, 115]
/-- The effect is none, or one of a taint's. -/
def effB (e : ByteArray) : Bool := e.toList.isEmpty || e.toList == [78, 111, 110, 101] || e.toList == [78, 111, 83, 99, 104, 101, 100, 117, 108, 101] || e.toList == [78, 111, 69, 120, 101, 99, 117, 116, 101]
/-- The operator with its key or value. -/
def opB (k o v : ByteArray) : Bool := if o.toList.isEmpty || o.toList == [69, 113, 117, 97, 108] then !k.toList.isEmpty else if o.toList == [69, 120, 105, 115, 116, 115] then v.toList.isEmpty else false
def tolB (k o v e : ByteArray) : Bool := opB k o v && effB e

set_option maxRecDepth 4000 in
set_option maxHeartbeats 800000 in
theorem tolOK_any (k o v e : ByteArray) (p : Value) (w : World) :
    Calls Tryf.prog 13 #[.agg #[.string k, .string o, .string v, .string e, p]] w fun x w' => x = .returned (.bool (tolB k o v e)) ∧ Below w.heap.size w w' := by
  go_enter Tryf.func13, Tryf.ntmps13
  go_wp2
  all_goals
    go_ret
    refine ⟨ret_bool ?_, (Below.refl _ _).alloc (Nat.le_refl _) _⟩
    go_light
    simp_all [tolB, opB, effB]

set_option maxRecDepth 4000 in
set_option maxHeartbeats 800000 in
theorem isEffect_any (e : ByteArray) (w : World) (he : e.toList.isEmpty = false) :
    Calls Tryf.prog 19 #[.string e] w fun x w' => x = .returned (.bool (effB e)) ∧ w = w' := by
  have HE : Hid (effB e = (e.toList == [78, 111, 110, 101] || e.toList == [78, 111, 83, 99, 104, 101, 100, 117, 108, 101] || e.toList == [78, 111, 69, 120, 101, 99, 117, 116, 101])) := by
    unfold effB; rw [he]; rfl
  clear he
  go_enter Tryf.func19, Tryf.ntmps19
  go_wp2
  all_goals
    go_ret
    refine ⟨ret_bool ?_, rfl⟩
    refine Eq.trans ?_ HE.out.symm
    clear HE
    go_light
    simp_all

/-- An error result: nil if ok, else a *FieldError. -/
def ErrIf (ok : Bool) (r : Value) : Prop := (ok = true ∧ r = .nilIface) ∨ (ok = false ∧ ∃ p, r = .iface 53 (.pointer (some p)))

set_option maxRecDepth 4000 in
set_option maxHeartbeats 1600000 in
theorem validate_any (F : Interp) (b : Nat) (k o v e fld : ByteArray) (w : World) (hF : F.answers w.tape) (hfl : fld.size ≤ 1099511627776) (hb : b < w.heap.size)
    (h0 : w.cell? ⟨b, 0, none⟩ = some (.string k)) (h1 : w.cell? ⟨b, 1, none⟩ = some (.string o)) (h2 : w.cell? ⟨b, 2, none⟩ = some (.string v)) (h3 : w.cell? ⟨b, 3, none⟩ = some (.string e)) :
    Calls Tryf.prog 18 #[.pointer (some ⟨b, 0, none⟩), .string fld] w fun x w' => ∃ r, x = .returned r ∧ ErrIf (tolB k o v e) r ∧ Below w.heap.size w w' := by
  have hF' := answers_open hF
  have hb1 : ¬ b = w.heap.size := by omega
  go_enter Tryf.func18, Tryf.ntmps18
  go_wp2_with (go_at_call 19; refine (isEffect_any _ _ (by simpa using (by assumption : ¬ e.toList = []))).mono ?_; rintro x w' ⟨rfl, rfl⟩)
  all_goals
    go_ret
    first
      | (refine ⟨_, rfl, Or.inl ⟨?_, rfl⟩, Below.refl _ _⟩; go_light; simp_all [tolB, opB, effB]; done)
      | (refine ⟨_, rfl, Or.inr ⟨?_, _, rfl⟩, (((Below.refl _ _).alloc (Nat.le_refl _) _).alloc (by simp) _).drew⟩; go_light; simp_all [tolB, opB, effB]; done)
end Go.Proofs.Qxb6616224aFmt
