import Derived.Test.Qxb6606001aModsRows
import Derived.WalkKit
import Derived.WalkSpells
import Derived.WalkLawsBesides
import Derived.Handy
import Derived.Deep.OwnRows
import Derived.Laws.EntriesVeiled
namespace Go.Proofs.Qxb6606001aMods
open Go.RowKit

/-- The strings ss lie in the cells from (b, off) on. -/
def Sat (w : World) (b off : Nat) (ss : List ByteArray) : Prop :=
  ∀ j, j < ss.length → w.cell? ⟨b, off + j, none⟩ = some (.string (ss.getD j ByteArray.empty))

/-- A slice's address and what is read behind it. -/
def View (w : World) (ao : Option Addr) (ss : List ByteArray) : Prop :=
  ss = [] ∨ ∃ b off, ao = some ⟨b, off, none⟩ ∧ b < w.heap.size ∧ Sat w b off ss

theorem Sat.below {w w' : World} {b off B : Nat} {ss : List ByteArray} (h : Sat w b off ss) (hb : b < B) (hw : Below B w w') : Sat w' b off ss :=
  fun j hj => (hw.cell (p := ⟨b, off + j, none⟩) hb).trans (h j hj)

theorem View.below {w w' : World} {ao : Option Addr} {ss : List ByteArray} (h : View w ao ss) (hw : Below w.heap.size w w') : View w' ao ss := by
  rcases h with h | ⟨b, off, e, hb, hs⟩
  · exact .inl h
  · exact .inr ⟨b, off, e, Nat.lt_of_lt_of_le hb hw.size, hs.below hb hw⟩

/-- It answers some bool, and nothing has turned. -/
def AnyBool (w : World) (e : Ending) (w' : World) : Prop := ∃ r : Bool, e = .returned (.bool r) ∧ w = w'
/-- It answers some int, and nothing has turned. -/
def AnyInt (w : World) (e : Ending) (w' : World) : Prop := ∃ r : Int, e = .returned (.int .i64 r) ∧ w = w'

end Go.Proofs.Qxb6606001aMods
