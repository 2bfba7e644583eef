import Derived.Test.Qxb6608727aModsBase
namespace Go.Proofs.Qxb6608727aMods
open Go.RowKit
set_option linter.unusedVariables false

/-- It answers some bool, true only within the limits; nothing has turned. -/
def Within (w : World) (p : Prop) (e : Ending) (w' : World) : Prop := ∃ r : Bool, e = .returned (.bool r) ∧ w = w' ∧ (r = true → p)

set_option maxHeartbeats 400000 in
theorem total_any (ao : Option Addr) (n c : Nat) (ss : List ByteArray) (hn : ss.length = n) (t : Int) (hsmall : n ≤ 1048576) (w : World) (hv : View w ao ss) :
    Calls Trym.prog 6 #[.int .i64 t, .slice ao n c] w (AnyInt w) := by
  have HN : Hid (ss.length = n) := hn
  have HV : Hid (View w ao ss) := hv
  clear hn hv
  go_enter Trym.func6, Trym.ntmps6
  go_wp2
  go_loop [5, 6] (fun z i => ∃ (k : Nat) (y : Int), k ≤ n ∧ i = .int .i64 k ∧ z = .int .i64 y) (fun _ i => n - (intOf i).toNat)
  case atStart => exact ⟨0, _, Nat.zero_le _, rfl, rfl⟩
  case round =>
    obtain ⟨k, y, hk, rfl, rfl⟩ := hrel
    by_cases hlt : k < n
    · obtain ⟨b, o, hb, hix, hcell⟩ := HV.out.get HN.out hlt c
      generalize ss.getD k ByteArray.empty = s at hcell
      by_cases hy : y ≤ 1048576
      · go_wp2
        · go_ret; exact ⟨_, rfl, rfl⟩
        · go_round
          case rel => exact ⟨k + 1, _, by omega, by go_num, rfl⟩
          case measure => simp [intOf]; omega
      · go_wp2
        go_ret; exact ⟨_, rfl, rfl⟩
    · go_wp2
      go_ret; exact ⟨_, rfl, rfl⟩

set_option maxHeartbeats 400000 in
theorem bytes14_any (ao ao2 : Option Addr) (n c n2 c2 : Nat) (ss : List ByteArray) (hn : ss.length = n) (f : ByteArray) (hf : f.size ≤ maxLen) (hn2 : n2 ≤ maxLen) (x y : Int) (w : World) (hv : View w ao ss) :
    Calls Trym.prog 14 #[.slice ao n c, .slice ao2 n2 c2, .string f, .int .i64 x, .int .i64 y] w (Within w (n ≤ 1048576)) := by
  have HN : Hid (ss.length = n) := hn
  have HV : Hid (View w ao ss) := hv
  clear hn hv
  unfold maxLen at hf hn2
  by_cases hbig : 1048576 < n
  · go_enter Trym.func14, Trym.ntmps14
    go_wp2
    go_ret
    exact ⟨_, rfl, rfl, fun h => by simp at h⟩
  have hd : decide ((1048576 : Int) < (n : Int)) = false := decide_eq_false (by omega)
  go_enter Trym.func14, Trym.ntmps14
  go_wp2
  go_loop [11, 12] (fun z i => ∃ (k : Nat) (y : Int), k ≤ n ∧ i = .int .i64 k ∧ z = .int .i64 y) (fun _ i => n - (intOf i).toNat)
  case atStart => exact ⟨0, _, Nat.zero_le _, rfl, rfl⟩
  case round =>
    obtain ⟨k, y, hk, rfl, rfl⟩ := hrel
    by_cases hlt : k < n
    · obtain ⟨b, o, hb, hix, hcell⟩ := HV.out.get HN.out hlt c
      generalize ss.getD k ByteArray.empty = s at hcell
      go_wp2
      · go_ret; exact ⟨_, rfl, rfl, fun _ => by omega⟩
      · go_ret; exact ⟨_, rfl, rfl, fun _ => by omega⟩
      · go_round
        case rel => exact ⟨k + 1, _, by omega, by go_num, rfl⟩
        case measure => simp [intOf]; omega
    · go_wp2
      all_goals (go_ret; exact ⟨_, rfl, rfl, fun _ => by omega⟩)
end Go.Proofs.Qxb6608727aMods
