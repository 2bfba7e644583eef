import Derived.Test.Qxb6608727aModsRows
import Derived.WalkKit
import Derived.WalkSpells
import Derived.WalkLawsBesides
import Derived.Handy
import Derived.Deep.OwnRows
import Derived.Maps.OwnSet
namespace Go.Proofs.Qxb6608727aMods
open Go.RowKit
set_option linter.unusedVariables false

/-- The strings ss lie in the cells from (b, off) on. -/
def Sat (w : World) (b off : Nat) (ss : List ByteArray) : Prop :=
  ∀ j, j < ss.length → w.cell? ⟨b, off + j, none⟩ = some (.string (ss.getD j ByteArray.empty))
/-- A slice's address and the strings behind it. -/
def View (w : World) (ao : Option Addr) (ss : List ByteArray) : Prop :=
  ss = [] ∨ ∃ b off, ao = some ⟨b, off, none⟩ ∧ b < w.heap.size ∧ Sat w b off ss
/-- The ints zs lie in the cells from (b, off) on. -/
def ISat (w : World) (b off : Nat) (zs : List Int) : Prop :=
  ∀ j, j < zs.length → w.cell? ⟨b, off + j, none⟩ = some (.int .i64 (zs.getD j 0))
def IView (w : World) (ao : Option Addr) (zs : List Int) : Prop :=
  zs = [] ∨ ∃ b off, ao = some ⟨b, off, none⟩ ∧ b < w.heap.size ∧ ISat w b off zs

theorem View.below {w w' : World} {ao : Option Addr} {ss : List ByteArray} (h : View w ao ss) (hw : Below w.heap.size w w') : View w' ao ss := by
  rcases h with h | ⟨b, off, e, hb, hs⟩
  · exact .inl h
  · exact .inr ⟨b, off, e, Nat.lt_of_lt_of_le hb hw.size, fun j hj => (hw.cell (p := ⟨b, off + j, none⟩) hb).trans (hs j hj)⟩
theorem IView.below {w w' : World} {ao : Option Addr} {ss : List Int} (h : IView w ao ss) (hw : Below w.heap.size w w') : IView w' ao ss := by
  rcases h with h | ⟨b, off, e, hb, hs⟩
  · exact .inl h
  · exact .inr ⟨b, off, e, Nat.lt_of_lt_of_le hb hw.size, fun j hj => (hw.cell (p := ⟨b, off + j, none⟩) hb).trans (hs j hj)⟩

/-- An element's address: for a walk that does not know the slice's address outright. -/
theorem ix22 (b off n c k : Nat) (hk : k < n) (w : World) : (Instr.indexAt 22 (.slice (some ⟨b, off, none⟩) n c) (.int .i64 (k : Int))).run Trym.prog w = .ok (.pointer (some ⟨b, off + k, none⟩)) w := by
  rw [run_indexAt_slice w 22 ⟨b, off, none⟩ n c .i64 k (by rfl), if_pos (by omega)]
  have hs : (sizeOf (Trym.prog.elem 22)).run Trym.prog w = .ok 1 w := by kernel_rfl
  rw [hs]
  simp [Result.andThen, Addr.add]
theorem ix23 (b off n c k : Nat) (hk : k < n) (w : World) : (Instr.indexAt 23 (.slice (some ⟨b, off, none⟩) n c) (.int .i64 (k : Int))).run Trym.prog w = .ok (.pointer (some ⟨b, off + k, none⟩)) w := by
  rw [run_indexAt_slice w 23 ⟨b, off, none⟩ n c .i64 k (by rfl), if_pos (by omega)]
  have hs : (sizeOf (Trym.prog.elem 23)).run Trym.prog w = .ok 1 w := by kernel_rfl
  rw [hs]
  simp [Result.andThen, Addr.add]

/-- Element k of a slice of strings. -/
theorem View.get {w : World} {ao : Option Addr} {ss : List ByteArray} (h : View w ao ss) {n k : Nat} (hn : ss.length = n) (hk : k < n) (c : Nat) :
    ∃ b o, b < w.heap.size ∧ (∀ w' : World, (Instr.indexAt 22 (.slice ao n c) (.int .i64 (k : Int))).run Trym.prog w' = .ok (.pointer (some ⟨b, o, none⟩)) w') ∧ w.cell? ⟨b, o, none⟩ = some (.string (ss.getD k ByteArray.empty)) := by
  rcases h with rfl | ⟨b, off, rfl, hb, hs⟩
  · simp at hn; omega
  · exact ⟨b, off + k, hb, fun w' => ix22 b off n c k hk w', hs k (by omega)⟩
theorem IView.get {w : World} {ao : Option Addr} {ss : List Int} (h : IView w ao ss) {n k : Nat} (hn : ss.length = n) (hk : k < n) (c : Nat) :
    ∃ b o, b < w.heap.size ∧ (∀ w' : World, (Instr.indexAt 23 (.slice ao n c) (.int .i64 (k : Int))).run Trym.prog w' = .ok (.pointer (some ⟨b, o, none⟩)) w') ∧ w.cell? ⟨b, o, none⟩ = some (.int .i64 (ss.getD k 0)) := by
  rcases h with rfl | ⟨b, off, rfl, hb, hs⟩
  · simp at hn; omega
  · exact ⟨b, off + k, hb, fun w' => ix23 b off n c k hk w', hs k (by omega)⟩

/-- It answers some int, and nothing has turned. -/
def AnyInt (w : World) (e : Ending) (w' : World) : Prop := ∃ r : Int, e = .returned (.int .i64 r) ∧ w = w'
/-- It answers true, and nothing old has turned. -/
def SaysTrue (w : World) (e : Ending) (w' : World) : Prop := e = .returned (.bool true) ∧ Below w.heap.size w w'
end Go.Proofs.Qxb6608727aMods
