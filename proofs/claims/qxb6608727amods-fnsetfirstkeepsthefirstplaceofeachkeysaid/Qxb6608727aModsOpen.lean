import Derived.Test.Qxb6608727aModsPlaces
import Derived.ProofKit
import Derived.OpenShut
import Derived.ShutString
import Derived.ChangeOld
import Derived.SliceStrings
namespace Go.Proofs.Qxb6608727aMods
open Go.ChangeShapes Go.WideShapes Go.ChangeAt Go.RowKit
set_option linter.unusedVariables false

theorem own : ownKnob Trym.prog.godebug = none := by kernel_rfl
theorem laidOut : laidOutB Trym.prog = true := by kernel_rfl

/-- A slice of strings that came in: what the walk is told of it. -/
theorem view_of_trod {H : Type} {enc : TypeId × Value → H} {W : World} {base fuel : Nat} {held : Bool} {a0 : Option Addr} {len cap : Nat} {x : DataW H × List MemPlace}
    (hf : DataW.trod enc Trym.prog W base (fun _ => true) held fuel 22 [.slice a0 len cap] = some x) : ∃ ss : List ByteArray, ss.length = len ∧ AllS ss ∧ len ≤ maxLen ∧ View W a0 ss := by
  rcases open_strings Trym.underlying22 Trym.underlying9 (by kernel_rfl) hf with ⟨hcs, _⟩ | ⟨a, l, c, ss, hcs, _, hl, hm, hz, _, hcell, hws⟩
  · simp at hcs
    obtain ⟨rfl, rfl, rfl⟩ := hcs
    exact ⟨[], rfl, fun k hk => by simp at hk, Nat.zero_le _, .inl rfl⟩
  · simp at hcs
    obtain ⟨rfl, rfl, rfl⟩ := hcs
    simp only [if_true] at hz
    refine ⟨ss.take len, by rw [List.length_take]; omega, fun k hk => ?_, by omega, ?_⟩
    · rw [List.length_take] at hk
      rw [List.getD, List.getElem?_eq_getElem (by rw [List.length_take]; omega), Option.getD_some, List.getElem_take]
      exact hws _ (List.getElem_mem _)
    · by_cases h0 : len = 0
      · subst h0; exact .inl (by simp)
      · obtain ⟨b, off, spot⟩ := a
        have hspot : spot = none := by simpa [Addr.add] using World.cell?_spot (hcell 0 (by omega))
        subst hspot
        refine .inr ⟨b, off, rfl, ?_, fun j hj => ?_⟩
        · have := World.block_lt_of_cell? _ _ (hcell 0 (by omega))
          simpa [Addr.add] using this
        · rw [List.length_take] at hj
          rw [← add_plain, hcell j (by omega)]
          simp [List.getD, show j < len by omega]

/-- A slice of ints that came in. -/
theorem iview_of_trod {H : Type} {enc : TypeId × Value → H} {W : World} {base fuel : Nat} {held : Bool} {a0 : Option Addr} {len cap : Nat} {x : DataW H × List MemPlace}
    (hf : DataW.trod enc Trym.prog W base (fun _ => true) held fuel 23 [.slice a0 len cap] = some x) : ∃ zs : List Int, zs.length = len ∧ AllI zs ∧ len ≤ maxLen ∧ IView W a0 zs := by
  rcases open_ints Trym.underlying23 Trym.underlying3 (by kernel_rfl) hf with ⟨hcs, _⟩ | ⟨a, l, c, ss, hcs, _, hl, hm, hz, _, hcell, hws⟩
  · simp at hcs
    obtain ⟨rfl, rfl, rfl⟩ := hcs
    exact ⟨[], rfl, fun k hk => by simp at hk, Nat.zero_le _, .inl rfl⟩
  · simp at hcs
    obtain ⟨rfl, rfl, rfl⟩ := hcs
    simp only [if_true] at hz
    refine ⟨ss.take len, by rw [List.length_take]; omega, fun k hk => ?_, by omega, ?_⟩
    · rw [List.length_take] at hk
      rw [List.getD, List.getElem?_eq_getElem (by rw [List.length_take]; omega), Option.getD_some, List.getElem_take]
      exact hws _ (List.getElem_mem _)
    · by_cases h0 : len = 0
      · subst h0; exact .inl (by simp)
      · obtain ⟨b, off, spot⟩ := a
        have hspot : spot = none := by simpa [Addr.add] using World.cell?_spot (hcell 0 (by omega))
        subst hspot
        refine .inr ⟨b, off, rfl, ?_, fun j hj => ?_⟩
        · have := World.block_lt_of_cell? _ _ (hcell 0 (by omega))
          simpa [Addr.add] using this
        · rw [List.length_take] at hj
          rw [← add_plain, hcell j (by omega)]
          simp [List.getD, show j < len by omega]
end Go.Proofs.Qxb6608727aMods
