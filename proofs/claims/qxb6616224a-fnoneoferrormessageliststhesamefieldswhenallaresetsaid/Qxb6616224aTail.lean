/-
  THE TAIL OF A FUNCTION's TEXT from its region n on: so that a great function's walk can be cut into declarations.
-/
import Derived.WalkKit
namespace Go.Proofs.Qxb6616224a

/-- Does this statement open with region n? -/
def opensAt (n : Nat) : Code → Bool
  | .region k _ _ => k == n
  | .seq a _ => opensAt n a
  | .block _ a => opensAt n a
  | .scope a => opensAt n a
  | _ => false

/-- The text from region n on. -/
def tailFrom (n : Nat) : Code → Code
  | .seq a b => if opensAt n a then .seq a b else tailFrom n b
  | c => c

def codeFrom (n : Nat) (f : Func) : Code := tailFrom n (f.body.getD .skip)

end Go.Proofs.Qxb6616224a
