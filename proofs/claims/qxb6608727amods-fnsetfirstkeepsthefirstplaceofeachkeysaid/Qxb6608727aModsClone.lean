import Derived.Test.Qxb6608727aModsGuards
namespace Go.Proofs.Qxb6608727aMods
open Go.RowKit
set_option linter.unusedVariables false

theorem Trym.info9 : (Trym.prog.info? 9).map (fun i => (i.zero, i.size, i.bytes)) = some (some (.string ByteArray.empty), 1, 16) := by kernel_rfl
theorem Trym.info3 : (Trym.prog.info? 3).map (fun i => (i.zero, i.size, i.bytes)) = some (some (.int .i64 0), 1, 8) := by kernel_rfl

/-- What the copy holds after k rounds. -/
def clF (ss : List ByteArray) (k : Nat) : Nat → Value := fun j => Value.string (if j < k then ss.getD j ByteArray.empty else ByteArray.empty)

theorem clF_zero (ss : List ByteArray) : (fun _ => Value.string ByteArray.empty) = clF ss 0 := by funext j; simp [clF]

theorem clF_step {w : World} {g t n k : Nat} {ss : List ByteArray} (h : w.rowIs g t n (clF ss k)) : (w.setCell ⟨g, k, none⟩ (Value.string (ss.getD k ByteArray.empty))).rowIs g t n (clF ss (k + 1)) := by
  refine (h.set k _).congr fun j hj => ?_
  by_cases e : j = k
  · subst e; simp [clF]
  · simp only [clF]
    rw [if_neg e]
    by_cases h1 : j < k
    · rw [if_pos h1, if_pos (by omega)]
    · rw [if_neg h1, if_neg (by omega)]

theorem clF_sat {w : World} {g t n : Nat} {ss : List ByteArray} (hn : ss.length = n) (h : w.rowIs g t n (clF ss n)) : Sat w g 0 ss := by
  intro j hj
  rw [Nat.zero_add, h.cell (i := j) (by omega)]
  simp only [clF]
  rw [if_pos (by omega)]

/-- A copy. -/
def Cloned (w : World) (n : Nat) (ss : List ByteArray) (e : Ending) (w' : World) : Prop :=
  ∃ ao c, e = .returned (.slice ao n c) ∧ View w' ao ss ∧ Below w.heap.size w w'

set_option maxHeartbeats 400000 in
theorem clone_nil (c : Nat) (w : World) : Calls Trym.prog 7 #[.slice none 0 c] w (Cloned w 0 []) := by
  have hnil := fun w => Lib.run_eql_slice_nil (P := Trym.prog) w 22 9 none 0 c 0 0 Trym.underlying22
  go_enter Trym.func7, Trym.ntmps7
  go_wp2
  go_ret
  exact ⟨none, _, rfl, .inl rfl, Below.refl _ _⟩

set_option maxHeartbeats 400000 in
theorem clone_some (a : Addr) (n c : Nat) (ss : List ByteArray) (hn : ss.length = n) (hsmall : n ≤ 1048576) (w : World) (hv : View w (some a) ss) :
    Calls Trym.prog 7 #[.slice (some a) n c] w (Cloned w n ss) := by
  have HN : Hid (ss.length = n) := hn
  have HV : Hid (View w (some a) ss) := hv
  clear hn hv
  have hnil := fun w => Lib.run_eql_slice_nil (P := Trym.prog) w 22 9 (some a) n c 0 0 Trym.underlying22
  have hmk := fun w => run_make_row' (P := Trym.prog) 22 9 (Value.string ByteArray.empty) 16 Trym.underlying22 Trym.info9 rfl .i64 .i64 n (by omega) (by omega) w
  obtain ⟨ao, hao⟩ : ∃ ao, ao = some a := ⟨_, rfl⟩
  rw [← hao] at HV hnil ⊢
  have hs : (Option.isNone ao) = false := by rw [hao]; rfl
  clear hao
  go_enter Trym.func7, Trym.ntmps7
  go_wp2
  go_loopw [4] (fun i wr => ∃ k : Nat, k ≤ n ∧ i = .int .i64 k ∧ wr.rowIs w.heap.size 9 n (clF ss k) ∧ Below w.heap.size w wr) (fun i _ => n - (intOf i).toNat)
  case atStart => exact ⟨0, Nat.zero_le _, rfl, by rw [← clF_zero]; exact World.rowIs_made _ _ _ _, (Below.refl _ _).alloc (Nat.le_refl _) _⟩
  case round =>
    obtain ⟨k, hk, rfl, hrow, hbl⟩ := hrel
    clear hnil hmk
    by_cases hlt : k < n
    · obtain ⟨b, o, hb, hix, hcell⟩ := (HV.out.below hbl).get HN.out hlt c
      obtain ⟨s, hse⟩ : ∃ s, s = ss.getD k ByteArray.empty := ⟨_, rfl⟩
      rw [← hse] at hcell
      have HSE : Hid (s = ss.getD k ByteArray.empty) := hse
      clear hse
      have hto := hrow.cell hlt
      have hfr := hrow.frozen k
      go_wp2
      go_roundw
      case rel => exact ⟨k + 1, by omega, by go_num, by rw [HSE.out]; exact clF_step hrow, hbl.setCell (Nat.le_refl _) _⟩
      case measure => simp [intOf]; omega
    · obtain rfl : k = n := by omega
      go_wp2
      go_ret
      exact ⟨_, _, rfl, .inr ⟨_, _, rfl, hrow.lt, clF_sat HN.out hrow⟩, hbl⟩

theorem clone_any (ao : Option Addr) (n c : Nat) (ss : List ByteArray) (hn : ss.length = n) (hsmall : n ≤ 1048576) (w : World) (hv : View w ao ss) :
    Calls Trym.prog 7 #[.slice ao n c] w (Cloned w n ss) := by
  cases ao with
  | none =>
    rcases hv with rfl | ⟨b, off, h, _⟩
    · subst hn; exact clone_nil _ _
    · cases h
  | some a => exact clone_some a n c ss hn hsmall w hv

/-- What the copy holds after k rounds. -/
def ciF (ss : List Int) (k : Nat) : Nat → Value := fun j => Value.int .i64 (if j < k then ss.getD j 0 else 0)

theorem ciF_zero (ss : List Int) : (fun _ => Value.int .i64 0) = ciF ss 0 := by funext j; simp [ciF]

theorem ciF_step {w : World} {g t n k : Nat} {ss : List Int} (h : w.rowIs g t n (ciF ss k)) : (w.setCell ⟨g, k, none⟩ (Value.int .i64 (ss.getD k 0))).rowIs g t n (ciF ss (k + 1)) := by
  refine (h.set k _).congr fun j hj => ?_
  by_cases e : j = k
  · subst e; simp [ciF]
  · simp only [ciF]
    rw [if_neg e]
    by_cases h1 : j < k
    · rw [if_pos h1, if_pos (by omega)]
    · rw [if_neg h1, if_neg (by omega)]

theorem ciF_sat {w : World} {g t n : Nat} {ss : List Int} (hn : ss.length = n) (h : w.rowIs g t n (ciF ss n)) : ISat w g 0 ss := by
  intro j hj
  rw [Nat.zero_add, h.cell (i := j) (by omega)]
  simp only [ciF]
  rw [if_pos (by omega)]

/-- A copy. -/
def ICloned (w : World) (n : Nat) (ss : List Int) (e : Ending) (w' : World) : Prop :=
  ∃ ao c, e = .returned (.slice ao n c) ∧ IView w' ao ss ∧ Below w.heap.size w w'

set_option maxHeartbeats 400000 in
theorem iclone_nil (c : Nat) (w : World) : Calls Trym.prog 8 #[.slice none 0 c] w (ICloned w 0 []) := by
  have hnil := fun w => Lib.run_eql_slice_nil (P := Trym.prog) w 23 3 none 0 c 0 0 Trym.underlying23
  go_enter Trym.func8, Trym.ntmps8
  go_wp2
  go_ret
  exact ⟨none, _, rfl, .inl rfl, Below.refl _ _⟩

set_option maxHeartbeats 400000 in
theorem iclone_some (a : Addr) (n c : Nat) (ss : List Int) (hn : ss.length = n) (hsmall : n ≤ 1048576) (w : World) (hv : IView w (some a) ss) :
    Calls Trym.prog 8 #[.slice (some a) n c] w (ICloned w n ss) := by
  have HN : Hid (ss.length = n) := hn
  have HV : Hid (IView w (some a) ss) := hv
  clear hn hv
  have hnil := fun w => Lib.run_eql_slice_nil (P := Trym.prog) w 23 3 (some a) n c 0 0 Trym.underlying23
  have hmk := fun w => run_make_row' (P := Trym.prog) 23 3 (Value.int .i64 0) 8 Trym.underlying23 Trym.info3 rfl .i64 .i64 n (by omega) (by omega) w
  obtain ⟨ao, hao⟩ : ∃ ao, ao = some a := ⟨_, rfl⟩
  rw [← hao] at HV hnil ⊢
  have hs : (Option.isNone ao) = false := by rw [hao]; rfl
  clear hao
  go_enter Trym.func8, Trym.ntmps8
  go_wp2
  go_loopw [4] (fun i wr => ∃ k : Nat, k ≤ n ∧ i = .int .i64 k ∧ wr.rowIs w.heap.size 3 n (ciF ss k) ∧ Below w.heap.size w wr) (fun i _ => n - (intOf i).toNat)
  case atStart => exact ⟨0, Nat.zero_le _, rfl, by rw [← ciF_zero]; exact World.rowIs_made _ _ _ _, (Below.refl _ _).alloc (Nat.le_refl _) _⟩
  case round =>
    obtain ⟨k, hk, rfl, hrow, hbl⟩ := hrel
    clear hnil hmk
    by_cases hlt : k < n
    · obtain ⟨b, o, hb, hix, hcell⟩ := (HV.out.below hbl).get HN.out hlt c
      obtain ⟨s, hse⟩ : ∃ s, s = ss.getD k 0 := ⟨_, rfl⟩
      rw [← hse] at hcell
      have HSE : Hid (s = ss.getD k 0) := hse
      clear hse
      have hto := hrow.cell hlt
      have hfr := hrow.frozen k
      go_wp2
      go_roundw
      case rel => exact ⟨k + 1, by omega, by go_num, by rw [HSE.out]; exact ciF_step hrow, hbl.setCell (Nat.le_refl _) _⟩
      case measure => simp [intOf]; omega
    · obtain rfl : k = n := by omega
      go_wp2
      go_ret
      exact ⟨_, _, rfl, .inr ⟨_, _, rfl, hrow.lt, ciF_sat HN.out hrow⟩, hbl⟩

theorem iclone_any (ao : Option Addr) (n c : Nat) (ss : List Int) (hn : ss.length = n) (hsmall : n ≤ 1048576) (w : World) (hv : IView w ao ss) :
    Calls Trym.prog 8 #[.slice ao n c] w (ICloned w n ss) := by
  cases ao with
  | none =>
    rcases hv with rfl | ⟨b, off, h, _⟩
    · subst hn; exact iclone_nil _ _
    · cases h
  | some a => exact iclone_some a n c ss hn hsmall w hv

end Go.Proofs.Qxb6608727aMods
