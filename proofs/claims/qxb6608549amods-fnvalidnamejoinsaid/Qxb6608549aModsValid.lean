import Derived.Test.Qxb6608549aModsPlain
namespace Go.Proofs.Qxb6608549aMods
open Go.RowKit
set_option linter.unusedVariables false

/-- It answers r, and nothing has turned. -/
def SaysQ (w : World) (r : Bool) (e : Ending) (w' : World) : Prop := e = .returned (.bool r) ∧ w = w'

theorem byte_at (s : ByteArray) (k : Nat) (h : k < s.size) : s.data.toList[k]'(by simpa using h) = s[k] := rfl

theorem good_step {s : ByteArray} {k : Nat} (h : k < s.size) (hg : gf 0 (s.data.toList.take k) = true) (hb : okB s[k].toNat k = true) : gf 0 (s.data.toList.take (k + 1)) = true := by
  rw [gf_take_succ _ k (by simpa using h), hg, byte_at s k h, hb]; rfl
theorem bad_step {s : ByteArray} {k : Nat} (h : k < s.size) (hb : okB s[k].toNat k = false) : vn s.data.toList = false := by
  unfold vn
  rw [gf_bad s.data.toList k (by simpa using h) (by rw [byte_at s k h]; exact hb), Bool.and_false]

theorem vn_long {s : ByteArray} (h : s.size = 0 ∨ 128 < s.size) : vn s.data.toList = false := by
  unfold vn
  have : decide (1 ≤ s.data.toList.length ∧ s.data.toList.length ≤ 128) = false := by
    apply decide_eq_false
    have : s.data.toList.length = s.size := by simp
    omega
  rw [this]; rfl
theorem vn_good {s : ByteArray} (h1 : 0 < s.size) (h2 : s.size ≤ 128) (hg : gf 0 (s.data.toList.take s.size) = true) : vn s.data.toList = true := by
  have hl : s.data.toList.length = s.size := by simp
  rw [List.take_of_length_le (by omega)] at hg
  unfold vn
  rw [hg, Bool.and_true]
  exact decide_eq_true (by omega)

set_option maxHeartbeats 1000000 in
theorem valid_short (s : ByteArray) (hs : s.size ≤ maxLen) (h : s.size = 0 ∨ 128 < s.size) (w : World) : Calls Trym.prog 20 #[.string s] w (SaysQ w (vn s.data.toList)) := by
  rw [vn_long h]
  unfold maxLen at hs
  rcases h with h | h
  · have h0 : ((s.size : Int) == 0) = true := beq_iff_eq.2 (by omega)
    go_enter Trym.func20, Trym.ntmps20
    go_wp2
    go_ret
    exact ⟨rfl, rfl⟩
  · have h0 : ((s.size : Int) == 0) = false := beq_eq_false_iff_ne.2 (by omega)
    go_enter Trym.func20, Trym.ntmps20
    go_wp2
    go_ret
    exact ⟨rfl, rfl⟩

set_option maxHeartbeats 4000000 in
theorem valid_mid (s : ByteArray) (h1 : 0 < s.size) (h2 : s.size ≤ 128) (w : World) : Calls Trym.prog 20 #[.string s] w (SaysQ w (vn s.data.toList)) := by
  have h0 : ((s.size : Int) == 0) = false := beq_eq_false_iff_ne.2 (by omega)
  have hd : decide ((128 : Int) < (s.size : Int)) = false := decide_eq_false (by omega)
  go_enter Trym.func20, Trym.ntmps20
  go_wp2
  go_loop [3] (fun i => ∃ k : Nat, k ≤ s.size ∧ i = .int .i64 k ∧ gf 0 (s.data.toList.take k) = true) (fun i => s.size - (intOf i).toNat)
  case atStart => exact ⟨0, Nat.zero_le _, rfl, rfl⟩
  case round =>
    obtain ⟨k, hk, rfl, hg⟩ := hrel
    have HG : Hid (gf 0 (s.data.toList.take k) = true) := hg
    clear hg
    by_cases hlt : k < s.size
    · go_wp2
      all_goals
        (try (have h95 : (((s[k].toNat : Nat) : Int) == 95) = true := by assumption
              have h95' := beq_iff_eq.1 h95))
        (try (have h95 : (((s[k].toNat : Nat) : Int) == 95) = false := by assumption
              have h95' := beq_eq_false_iff_ne.1 h95))
      all_goals first
        | (have hb : okB s[k].toNat k = true := by unfold okB; apply decide_eq_true; omega
           go_round
           case rel => exact ⟨k + 1, by omega, by go_num, good_step hlt HG.out hb⟩
           case measure => simp [intOf]; omega)
        | (have hb : okB s[k].toNat k = false := by unfold okB; apply decide_eq_false; omega
           go_ret
           exact ⟨by rw [bad_step hlt hb]; rfl, rfl⟩)
    · obtain rfl : k = s.size := by omega
      go_wp2
      go_ret
      exact ⟨by rw [vn_good h1 h2 HG.out]; rfl, rfl⟩

theorem valid_any (s : ByteArray) (hs : s.size ≤ maxLen) (w : World) : Calls Trym.prog 20 #[.string s] w (SaysQ w (vn s.data.toList)) := by
  by_cases h : s.size = 0 ∨ 128 < s.size
  · exact valid_short s hs h w
  · exact valid_mid s (by omega) (by omega) w

set_option maxHeartbeats 1000000 in
theorem zzvalid_any (s : ByteArray) (hs : s.size ≤ maxLen) (w : World) : Calls Trym.prog 8 #[.string s] w (SaysQ w (vn s.data.toList)) := by
  go_enter Trym.func8, Trym.ntmps8
  go_wp2_with fail
  refine (valid_any s hs w).mono ?_
  rintro e w1 ⟨rfl, rfl⟩
  go_wp2
  go_ret
  exact ⟨rfl, rfl⟩
end Go.Proofs.Qxb6608549aMods
