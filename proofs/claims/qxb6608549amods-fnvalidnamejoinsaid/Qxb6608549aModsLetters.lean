import Derived.Test.Qxb6608549aModsValid
namespace Go.Proofs.Qxb6608549aMods
open Go.RowKit
set_option linter.unusedVariables false

theorem Trym.info5 : (Trym.prog.info? 5).map (fun i => (i.zero, i.size, i.bytes)) = some (some (.int .u8 0), 1, 1) := by kernel_rfl

/-- What the bytes hold after k rounds. -/
def ltF (s : ByteArray) (k : Nat) : Nat → Value := fun j => .int .u8 (if j < k then (s.data.toList.map ltB).getD j 0 else 0)

theorem ltF_zero (s : ByteArray) : (fun _ => Value.int .u8 0) = ltF s 0 := by funext j; simp [ltF]

theorem ltF_step {w : World} {g t n k : Nat} {s : ByteArray} (hk : k < s.size) (h : w.rowIs g t n (ltF s k)) : (w.setCell ⟨g, k, none⟩ (.int .u8 (97 + ((s[k].toNat : Nat) : Int) % 26))).rowIs g t n (ltF s (k + 1)) := by
  have hv : (s.data.toList.map ltB).getD k 0 = 97 + ((s[k].toNat : Nat) : Int) % 26 := by
    rw [List.getD, List.getElem?_eq_getElem (by simpa using hk)]
    simp only [List.getElem_map, Option.getD_some]
    rfl
  refine (h.set k _).congr fun j hj => ?_
  by_cases e : j = k
  · subst e; simp only [ltF]; rw [if_pos (by trivial), if_pos (by omega), hv]
  · simp only [ltF]
    rw [if_neg e]
    by_cases h1 : j < k
    · rw [if_pos h1, if_pos (by omega)]
    · rw [if_neg h1, if_neg (by omega)]

/-- The letters of s. -/
def LetP (w : World) (s : ByteArray) (e : Ending) (w' : World) : Prop := e = .returned (.string (ltS s)) ∧ Below w.heap.size w w'

set_option maxHeartbeats 1000000 in
theorem letters_any (s : ByteArray) (hs : s.size ≤ 1048576) (w : World) : Calls Trym.prog 9 #[.string s] w (LetP w s) := by
  obtain ⟨n, hn⟩ : ∃ n, n = s.size := ⟨_, rfl⟩
  have hmk := fun w => run_make_row' (P := Trym.prog) 36 5 (.int .u8 0) 1 Trym.underlying36 Trym.info5 rfl .i64 .i64 s.size (by omega) (by omega) w
  go_enter Trym.func9, Trym.ntmps9
  go_wp2
  go_loopw [4] (fun i wr => ∃ k : Nat, k ≤ s.size ∧ i = .int .i64 k ∧ wr.rowIs w.heap.size 5 s.size (ltF s k) ∧ Below w.heap.size w wr) (fun i _ => s.size - (intOf i).toNat)
  case atStart => exact ⟨0, Nat.zero_le _, rfl, by rw [← ltF_zero]; exact World.rowIs_made _ _ _ _, (Below.refl _ _).alloc (Nat.le_refl _) _⟩
  case round =>
    obtain ⟨k, hk, rfl, hrow, hbl⟩ := hrel
    clear hmk
    by_cases hlt : k < s.size
    · have hto := hrow.cell hlt
      have hfr := hrow.frozen k
      go_wp2
      go_roundw
      case rel => exact ⟨k + 1, by omega, by go_num, ltF_step hlt hrow, hbl.setCell (Nat.le_refl _) _⟩
      case measure => simp [intOf]; omega
    · obtain rfl : k = s.size := by omega
      have hcv := run_convert_bytes_arg wr 36 5 Trym.underlying36 Trym.underlying5 w.heap.size 0 s.size s.size (s.data.toList.map ltB) (by simp) (fun i hi => by
        rw [Nat.zero_add, hrow.cell (i := i) hi]; simp only [ltF]; rw [if_pos hi]) 9 Trym.underlying9
      go_wp2
      go_ret
      exact ⟨rfl, hbl⟩
end Go.Proofs.Qxb6608549aMods
