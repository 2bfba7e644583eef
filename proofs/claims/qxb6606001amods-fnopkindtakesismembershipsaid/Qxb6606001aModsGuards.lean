import Derived.Test.Qxb6606001aModsBase
namespace Go.Proofs.Qxb6606001aMods
open Go.RowKit
set_option linter.unusedVariables false

set_option maxHeartbeats 400000 in
theorem bytes10_empty (ao : Option Addr) (c : Nat) (f : ByteArray) (hf : f.size ≤ maxLen) (w : World) :
    Calls Trym.prog 10 #[.slice ao 0 c, .string f] w (AnyBool w) := by
  unfold maxLen at hf
  go_enter Trym.func10, Trym.ntmps10
  go_wp2
  go_rounds 1
  all_goals (go_ret; exact ⟨_, rfl, rfl⟩)

set_option maxHeartbeats 400000 in
theorem bytes10_big (ao : Option Addr) (n c : Nat) (hbig : 1048576 < n) (f : ByteArray) (w : World) :
    Calls Trym.prog 10 #[.slice ao n c, .string f] w (AnyBool w) := by
  go_enter Trym.func10, Trym.ntmps10
  go_wp2
  go_ret
  exact ⟨_, rfl, rfl⟩

set_option maxHeartbeats 400000 in
theorem bytes10_some (b off n c : Nat) (ss : List ByteArray) (hn : ss.length = n) (f : ByteArray) (hf : f.size ≤ maxLen) (hsmall : n ≤ 1048576) (w : World) (hs : Sat w b off ss) :
    Calls Trym.prog 10 #[.slice (some ⟨b, off, none⟩) n c, .string f] w (AnyBool w) := by
  unfold maxLen at hf
  have HN : Hid (ss.length = n) := hn
  have HS : Hid (Sat w b off ss) := hs
  clear hn hs
  have hd : decide ((1048576 : Int) < (n : Int)) = false := decide_eq_false (by omega)
  go_enter Trym.func10, Trym.ntmps10
  go_wp2
  go_loop [5, 6] (fun z i => ∃ (k : Nat) (y : Int), k ≤ n ∧ i = .int .i64 k ∧ z = .int .i64 y) (fun _ i => n - (intOf i).toNat)
  case atStart => exact ⟨0, _, Nat.zero_le _, rfl, rfl⟩
  case round =>
    obtain ⟨k, y, hk, rfl, rfl⟩ := hrel
    by_cases hlt : k < n
    · obtain ⟨s, hcell⟩ : ∃ s, w.cell? ⟨b, off + k, none⟩ = some (.string s) := ⟨_, HS.out k (by rw [HN.out]; exact hlt)⟩
      go_wp2
      · go_ret; exact ⟨_, rfl, rfl⟩
      · go_ret; exact ⟨_, rfl, rfl⟩
      · go_round
        case rel => exact ⟨k + 1, _, by omega, by go_num, rfl⟩
        case measure => simp [intOf]; omega
    · go_wp2
      all_goals (go_ret; exact ⟨_, rfl, rfl⟩)

theorem bytes10_any (ao : Option Addr) (c : Nat) (ss : List ByteArray) (f : ByteArray) (hf : f.size ≤ maxLen) (w : World) (hs : View w ao ss) :
    Calls Trym.prog 10 #[.slice ao ss.length c, .string f] w (AnyBool w) := by
  by_cases hbig : 1048576 < ss.length
  · exact bytes10_big _ _ _ hbig _ _
  · rcases hs with rfl | ⟨b, off, rfl, _, hs⟩
    · exact bytes10_empty _ _ _ hf _
    · exact bytes10_some _ _ _ _ ss rfl _ hf (by omega) _ hs

set_option maxHeartbeats 400000 in
theorem total_empty (ao : Option Addr) (c : Nat) (t : Int) (w : World) :
    Calls Trym.prog 6 #[.slice ao 0 c, .int .i64 t] w (AnyInt w) := by
  go_enter Trym.func6, Trym.ntmps6
  go_wp2
  go_rounds 1
  all_goals (go_ret; exact ⟨_, rfl, rfl⟩)

set_option maxHeartbeats 400000 in
theorem total_some (b off n c : Nat) (ss : List ByteArray) (hn : ss.length = n) (t : Int) (hsmall : n ≤ 65536) (w : World) (hs : Sat w b off ss) :
    Calls Trym.prog 6 #[.slice (some ⟨b, off, none⟩) n c, .int .i64 t] w (AnyInt w) := by
  have HN : Hid (ss.length = n) := hn
  have HS : Hid (Sat w b off ss) := hs
  clear hn hs
  go_enter Trym.func6, Trym.ntmps6
  go_wp2
  go_loop [1, 5] (fun z i => ∃ (k : Nat) (y : Int), k ≤ n ∧ i = .int .i64 k ∧ z = .int .i64 y) (fun _ i => n - (intOf i).toNat)
  case atStart => exact ⟨0, _, Nat.zero_le _, rfl, rfl⟩
  case round =>
    obtain ⟨k, y, hk, rfl, rfl⟩ := hrel
    by_cases hlt : k < n
    · obtain ⟨s, hcell⟩ : ∃ s, w.cell? ⟨b, off + k, none⟩ = some (.string s) := ⟨_, HS.out k (by rw [HN.out]; exact hlt)⟩
      by_cases hy : 1048576 < y
      · go_wp2
        go_ret; exact ⟨_, rfl, rfl⟩
      · go_wp2
        · go_ret; exact ⟨_, rfl, rfl⟩
        · go_round
          case rel => exact ⟨k + 1, _, by omega, by go_num, rfl⟩
          case measure => simp [intOf]; omega
    · go_wp2
      go_ret; exact ⟨_, rfl, rfl⟩

theorem total_any (ao : Option Addr) (c : Nat) (ss : List ByteArray) (t : Int) (hsmall : ss.length ≤ 65536) (w : World) (hs : View w ao ss) :
    Calls Trym.prog 6 #[.slice ao ss.length c, .int .i64 t] w (AnyInt w) := by
  rcases hs with rfl | ⟨b, off, rfl, _, hs⟩
  · exact total_empty _ _ _ _
  · exact total_some _ _ _ _ ss rfl _ hsmall _ hs
end Go.Proofs.Qxb6606001aMods
