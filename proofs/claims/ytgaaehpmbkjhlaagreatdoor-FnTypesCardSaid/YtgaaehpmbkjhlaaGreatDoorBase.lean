/- The words that the walks of this seat share: contracts that tell a checker's answer. No conditions. -/
import Derived.Test.YtgaaehpmbkjhlaaGreatDoorProg
import Derived.WalkKit
import Derived.WalkLawsBesides
import Derived.WalkSpells
import Derived.Below
import Derived.Lib.Hide
import Derived.LoopN
import Derived.Deep.LoopGhost
namespace Go.Proofs.YtgaaehpmbkjhlaaGreatDoor
open Go Go.RowKit

/-- A checker's answer: some bool; where it is true P holds; what lay in w is as it was. -/
def Tells (P : Prop) (w : World) (e : Ending) (w' : World) : Prop := ∃ r : Bool, e = .returned (.bool r) ∧ (r = true → P) ∧ Below w.heap.size w w'
/-- The same where the world is left alone. -/
def TellsQ (P : Prop) (w : World) (e : Ending) (w' : World) : Prop := ∃ r : Bool, e = .returned (.bool r) ∧ (r = true → P) ∧ w = w'

theorem TellsQ.no {P : Prop} {w : World} : TellsQ P w (.returned (.bool false)) w := ⟨false, rfl, (fun h => by cases h), rfl⟩
theorem TellsQ.yes {P : Prop} {w : World} {b : Bool} (h : b = true → P) : TellsQ P w (.returned (.bool b)) w := ⟨b, rfl, h, rfl⟩
theorem Tells.no {P : Prop} {w w' : World} (h : Below w.heap.size w w') : Tells P w (.returned (.bool false)) w' := ⟨false, rfl, (fun h => by cases h), h⟩
theorem Tells.yes {P : Prop} {w w' : World} {b : Bool} (hp : b = true → P) (h : Below w.heap.size w w') : Tells P w (.returned (.bool b)) w' := ⟨b, rfl, hp, h⟩
/-- One new block. -/
theorem below1 (w : World) (o : Obj) : Below w.heap.size w (w.alloc o) := (Below.refl _ _).alloc (Nat.le_refl _) _

def IsTextP (s : ByteArray) : Prop := 1 ≤ s.size ∧ s.size ≤ 40
end Go.Proofs.YtgaaehpmbkjhlaaGreatDoor
