import Derived.Test.Qxb6608877aModsBack
namespace Go.Proofs.Qxb6608877aMods
open Go.RowKit
set_option linter.unusedVariables false

/-- The sum of the first k pauses. -/
def tot : Nat → Int
  | 0 => 0
  | k + 1 => tot k + bk ((k : Int) + 1)

theorem tot_small : tot 1 = 30000000 ∧ tot 2 = 90000000 ∧ tot 3 = 210000000 ∧ tot 4 = 450000000 ∧ tot 5 = 930000000 ∧ tot 6 = 1890000000 ∧ tot 7 = 3810000000 ∧ tot 8 = 7650000000 := by
  simp [tot, bk]

theorem tot_big (k : Nat) : tot (k + 8) = 7650000000 + 5000000000 * (k : Int) := by
  induction k with
  | zero => exact tot_small.2.2.2.2.2.2.2
  | succ k ih =>
    rw [show k + 1 + 8 = (k + 8) + 1 by omega, tot, ih]
    have := bk_cases (((k + 8 : Nat) : Int) + 1)
    omega

theorem tot_bound (k : Nat) : 0 ≤ tot k ∧ tot k ≤ 5000000000 * (k : Int) := by
  induction k with
  | zero => exact ⟨by decide, by decide⟩
  | succ k ih =>
    rw [tot]
    have := bk_cases ((k : Int) + 1)
    omega

/-- It answers true, and nothing has turned. -/
def IsT (w : World) (e : Ending) (w' : World) : Prop := e = .returned (.bool true) ∧ w' = w

theorem total_over (n : Int) (h : 65536 < n) (w : World) : Calls Trym.prog 4 #[.int .i64 n] w (IsT w) := by
  go_enter Trym.func4, Trym.ntmps4
  go_wp2
  go_ret
  exact ⟨rfl, rfl⟩

theorem total_neg (n : Int) (h : n ≤ 0) (w : World) : Calls Trym.prog 4 #[.int .i64 n] w (IsT w) := by
  go_enter Trym.func4, Trym.ntmps4
  go_wp2
  go_rounds 1
  go_ret
  exact ⟨rfl, rfl⟩

set_option maxHeartbeats 2000000 in
theorem total_mid (n : Nat) (h1 : 9 ≤ n) (h2 : n ≤ 65536) (w : World) : Calls Trym.prog 4 #[.int .i64 (n : Int)] w (IsT w) := by
  have hd : decide ((65536 : Int) < (n : Int)) = false := decide_eq_false (by omega)
  go_enter Trym.func4, Trym.ntmps4
  go_wp2
  go_loop [3, 4] (fun s i => ∃ (k : Nat) (t : Int), k ≤ n ∧ i = .int .i64 ((k : Int) + 1) ∧ s = .int .i64 t ∧ t = tot k) (fun _ i => n + 1 - (intOf i).toNat)
  case atStart => exact ⟨0, 0, Nat.zero_le _, rfl, rfl, rfl⟩
  case round =>
    obtain ⟨k, t, hk, rfl, rfl, ht⟩ := hrel
    have HT : Hid (t = tot k) := ht
    have hb := tot_bound k
    rw [← ht] at hb
    clear ht
    obtain ⟨hb1, hb2⟩ := hb
    by_cases hlt : k < n
    · obtain ⟨r, hr⟩ : ∃ r, r = bk ((k : Int) + 1) := ⟨_, rfl⟩
      have hrb : 0 ≤ r ∧ r ≤ 5000000000 := by have := bk_cases ((k : Int) + 1); omega
      obtain ⟨hr1, hr2⟩ := hrb
      have HR : Hid (bk ((k : Int) + 1) = r) := hr.symm
      clear hr
      go_wp2_with fail
      refine (zzback_is _ r HR.out w).mono ?_
      rintro e w1 ⟨rfl, rfl⟩
      go_wp2
      go_round
      case rel => exact ⟨k + 1, t + r, by omega, by go_num, rfl, by rw [tot, HT.out, HR.out]⟩
      case measure => simp only [intOf]; omega
    · obtain rfl : k = n := by omega
      have hfin : (t == 7650000000 + 5000000000 * ((k : Int) - 8)) = true := by
        obtain ⟨j, rfl⟩ : ∃ j, k = j + 8 := ⟨k - 8, by omega⟩
        rw [beq_iff_eq, HT.out, tot_big]
        omega
      go_wp2
      go_ret
      exact ⟨rfl, rfl⟩
end Go.Proofs.Qxb6608877aMods
