import Derived.Test.Qxb6606001aModsBase
namespace Go.Proofs.Qxb6606001aMods
open Go.RowKit
set_option linter.unusedVariables false

theorem Trym.info9 : (Trym.prog.info? 9).map (fun i => (i.zero, i.size, i.bytes)) = some (some (.string ByteArray.empty), 1, 16) := by kernel_rfl

/-- What the copy holds after k rounds. -/
def clF (ss : List ByteArray) (k : Nat) : Nat → Value := fun j => .string (if j < k then ss.getD j ByteArray.empty else ByteArray.empty)

theorem clF_zero (ss : List ByteArray) : (fun _ => Value.string ByteArray.empty) = clF ss 0 := by funext j; simp [clF]

theorem clF_step {w : World} {g t n k : Nat} {ss : List ByteArray} (h : w.rowIs g t n (clF ss k)) : (w.setCell ⟨g, k, none⟩ (.string (ss.getD k ByteArray.empty))).rowIs g t n (clF ss (k + 1)) := by
  refine (h.set k _).congr fun j hj => ?_
  by_cases e : j = k
  · subst e; simp [clF]
  · simp only [clF]
    rw [if_neg e]
    by_cases h1 : j < k
    · rw [if_pos h1, if_pos (by omega)]
    · rw [if_neg h1, if_neg (by omega)]

theorem clF_sat {w : World} {g t n : Nat} {ss : List ByteArray} (hn : ss.length = n) (h : w.rowIs g t n (clF ss n)) : Sat w g 0 ss := by
  intro j hj
  have := h.cell (i := j) (by omega)
  rw [Nat.zero_add, this]
  simp only [clF]
  rw [if_pos (by omega)]

/-- A copy of the strings. -/
def Cloned (w : World) (ss : List ByteArray) (e : Ending) (w' : World) : Prop :=
  ∃ ao c, e = .returned (.slice ao ss.length c) ∧ View w' ao ss ∧ Below w.heap.size w w'

set_option maxHeartbeats 400000 in
theorem clone_nil (c : Nat) (w : World) : Calls Trym.prog 7 #[.slice none 0 c] w (Cloned w []) := by
  have hnil := fun w => Lib.run_eql_slice_nil (P := Trym.prog) w 22 9 none 0 c 0 0 Trym.underlying22
  go_enter Trym.func7, Trym.ntmps7
  go_wp2
  go_ret
  exact ⟨none, _, rfl, .inl rfl, Below.refl _ _⟩

set_option maxHeartbeats 400000 in
theorem clone_empty (a : Addr) (c : Nat) (w : World) : Calls Trym.prog 7 #[.slice (some a) 0 c] w (Cloned w []) := by
  have hnil := fun w => Lib.run_eql_slice_nil (P := Trym.prog) w 22 9 (some a) 0 c 0 0 Trym.underlying22
  have hmk : ∀ w : World, (Instr.makeSlice 22 (.int .i64 0) (.int .i64 0)).run Trym.prog w = .ok (.slice (some ⟨w.heap.size, 0, none⟩) 0 0) (w.alloc (.cells (madeCells #[.string ByteArray.empty] 0) 9)) :=
    fun w => run_make_row' (P := Trym.prog) 22 9 (.string ByteArray.empty) 16 Trym.underlying22 Trym.info9 rfl .i64 .i64 0 (by omega) (by omega) w
  go_enter Trym.func7, Trym.ntmps7
  go_wp2
  go_rounds 1
  go_ret
  exact ⟨_, _, rfl, .inl rfl, (Below.refl _ _).alloc (Nat.le_refl _) _⟩

set_option maxHeartbeats 400000 in
theorem clone_some (b off n c : Nat) (ss : List ByteArray) (hn : ss.length = n) (hsmall : n ≤ 1048576) (w : World) (hb : b < w.heap.size) (hs : Sat w b off ss) :
    Calls Trym.prog 7 #[.slice (some ⟨b, off, none⟩) n c] w (Cloned w ss) := by
  have HN : Hid (ss.length = n) := hn
  have HS : Hid (Sat w b off ss) := hs
  clear hn hs
  have hnil := fun w => Lib.run_eql_slice_nil (P := Trym.prog) w 22 9 (some ⟨b, off, none⟩) n c 0 0 Trym.underlying22
  have hmk := fun w => run_make_row' (P := Trym.prog) 22 9 (.string ByteArray.empty) 16 Trym.underlying22 Trym.info9 rfl .i64 .i64 n (by omega) (by omega) w
  go_enter Trym.func7, Trym.ntmps7
  go_wp2
  go_loopw [4] (fun i wr => ∃ k : Nat, k ≤ n ∧ i = .int .i64 k ∧ wr.rowIs w.heap.size 9 n (clF ss k) ∧ Below w.heap.size w wr) (fun i _ => n - (intOf i).toNat)
  case atStart => exact ⟨0, Nat.zero_le _, rfl, by rw [← clF_zero]; exact World.rowIs_made _ _ _ _, (Below.refl _ _).alloc (Nat.le_refl _) _⟩
  case round =>
    obtain ⟨k, hk, rfl, hrow, hbl⟩ := hrel
    clear hnil hmk
    by_cases hlt : k < n
    · obtain ⟨s, hse⟩ : ∃ s, s = ss.getD k ByteArray.empty := ⟨_, rfl⟩
      have hcell : wr.cell? ⟨b, off + k, none⟩ = some (.string s) := by rw [hse]; exact (HS.out.below hb hbl) k (by rw [HN.out]; exact hlt)
      have hto := hrow.cell hlt
      have hfr := hrow.frozen k
      have HSE : Hid (s = ss.getD k ByteArray.empty) := hse
      clear hse
      go_wp2
      go_roundw
      case rel => exact ⟨k + 1, by omega, by go_num, by rw [HSE.out]; exact clF_step hrow, hbl.setCell (Nat.le_refl _) _⟩
      case measure => simp [intOf]; omega
    · obtain rfl : k = n := by omega
      go_wp2
      go_ret
      exact ⟨_, _, by rw [HN.out]; rfl, .inr ⟨_, _, rfl, hrow.lt, clF_sat HN.out hrow⟩, hbl⟩

theorem clone_any (ao : Option Addr) (c : Nat) (ss : List ByteArray) (hsmall : ss.length ≤ 1048576) (w : World) (hs : View w ao ss) :
    Calls Trym.prog 7 #[.slice ao ss.length c] w (Cloned w ss) := by
  rcases hs with rfl | ⟨b, off, rfl, hb, hs⟩
  · cases ao with
    | none => exact clone_nil _ _
    | some a => exact clone_empty _ _ _
  · exact clone_some _ _ _ _ ss rfl hsmall _ hb hs
end Go.Proofs.Qxb6606001aMods
