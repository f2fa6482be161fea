import Derived.Test.Qxb6001094aRows
import Derived.WalkKit
import Derived.Deep.QuietTactic
import Derived.BigQuiet
import Derived.WalkSpells
namespace Go.Proofs.Qxb6001094a
open Go.RowKit

/-- It returned a bool of which p holds (behind a name: simp would part on the bool). -/
def RB (p : Bool → Prop) (e : Ending) : Prop := ∃ b, e = .returned (.bool b) ∧ p b
theorem RB.mk {p : Bool → Prop} {b : Bool} {e : Ending} (h : p b) (he : e = .returned (.bool b)) : RB p e := ⟨b, he, h⟩

/-- A slice of slices of ints as it lies: row r's header. -/
def HeadsAt (w : World) (a : Option Addr) (m : Nat) (A : Nat → Option Addr) (L C : Nat → Nat) : Prop :=
  m = 0 ∨ ∃ b o, a = some ⟨b, o, none⟩ ∧ ∀ r, r < m → w.cell? ⟨b, o + r, none⟩ = some (.slice (A r) (L r) (C r))
end Go.Proofs.Qxb6001094a
