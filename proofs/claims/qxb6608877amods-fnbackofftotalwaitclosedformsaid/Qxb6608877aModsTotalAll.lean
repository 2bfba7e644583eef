import Derived.Test.Qxb6608877aModsTotal
namespace Go.Proofs.Qxb6608877aMods
open Go.RowKit
set_option linter.unusedVariables false

set_option maxHeartbeats 2000000 in
theorem total_1 (w : World) : Calls Trym.prog 4 #[.int .i64 1] w (IsT w) := by
  go_enter Trym.func4, Trym.ntmps4
  go_wp2
  go_loop [3, 4] (fun s i => ∃ (k : Nat) (t : Int), k ≤ 1 ∧ i = .int .i64 ((k : Int) + 1) ∧ s = .int .i64 t ∧ t = tot k) (fun _ i => 1 + 1 - (intOf i).toNat)
  case atStart => exact ⟨0, 0, Nat.zero_le _, rfl, rfl, rfl⟩
  case round =>
    obtain ⟨k, t, hk, rfl, rfl, ht⟩ := hrel
    have HT : Hid (t = tot k) := ht
    have hb := tot_bound k
    rw [← ht] at hb
    clear ht
    obtain ⟨hb1, hb2⟩ := hb
    by_cases hlt : k < 1
    · obtain ⟨r, hr⟩ : ∃ r, r = bk ((k : Int) + 1) := ⟨_, rfl⟩
      have hrb : 0 ≤ r ∧ r ≤ 5000000000 := by have := bk_cases ((k : Int) + 1); omega
      obtain ⟨hr1, hr2⟩ := hrb
      have HR : Hid (bk ((k : Int) + 1) = r) := hr.symm
      clear hr
      go_wp2_with fail
      refine (zzback_is _ r HR.out w).mono ?_
      rintro e w1 ⟨rfl, rfl⟩
      go_wp2
      go_round
      case rel => exact ⟨k + 1, t + r, by omega, by go_num, rfl, by rw [tot, HT.out, HR.out]⟩
      case measure => simp only [intOf]; omega
    · obtain rfl : k = 1 := by omega
      obtain rfl : t = 30000000 := HT.out.trans tot_small.1
      go_wp2
      go_ret
      exact ⟨rfl, rfl⟩

set_option maxHeartbeats 2000000 in
theorem total_2 (w : World) : Calls Trym.prog 4 #[.int .i64 2] w (IsT w) := by
  go_enter Trym.func4, Trym.ntmps4
  go_wp2
  go_loop [3, 4] (fun s i => ∃ (k : Nat) (t : Int), k ≤ 2 ∧ i = .int .i64 ((k : Int) + 1) ∧ s = .int .i64 t ∧ t = tot k) (fun _ i => 2 + 1 - (intOf i).toNat)
  case atStart => exact ⟨0, 0, Nat.zero_le _, rfl, rfl, rfl⟩
  case round =>
    obtain ⟨k, t, hk, rfl, rfl, ht⟩ := hrel
    have HT : Hid (t = tot k) := ht
    have hb := tot_bound k
    rw [← ht] at hb
    clear ht
    obtain ⟨hb1, hb2⟩ := hb
    by_cases hlt : k < 2
    · obtain ⟨r, hr⟩ : ∃ r, r = bk ((k : Int) + 1) := ⟨_, rfl⟩
      have hrb : 0 ≤ r ∧ r ≤ 5000000000 := by have := bk_cases ((k : Int) + 1); omega
      obtain ⟨hr1, hr2⟩ := hrb
      have HR : Hid (bk ((k : Int) + 1) = r) := hr.symm
      clear hr
      go_wp2_with fail
      refine (zzback_is _ r HR.out w).mono ?_
      rintro e w1 ⟨rfl, rfl⟩
      go_wp2
      go_round
      case rel => exact ⟨k + 1, t + r, by omega, by go_num, rfl, by rw [tot, HT.out, HR.out]⟩
      case measure => simp only [intOf]; omega
    · obtain rfl : k = 2 := by omega
      obtain rfl : t = 90000000 := HT.out.trans tot_small.2.1
      go_wp2
      go_ret
      exact ⟨rfl, rfl⟩

set_option maxHeartbeats 2000000 in
theorem total_3 (w : World) : Calls Trym.prog 4 #[.int .i64 3] w (IsT w) := by
  go_enter Trym.func4, Trym.ntmps4
  go_wp2
  go_loop [3, 4] (fun s i => ∃ (k : Nat) (t : Int), k ≤ 3 ∧ i = .int .i64 ((k : Int) + 1) ∧ s = .int .i64 t ∧ t = tot k) (fun _ i => 3 + 1 - (intOf i).toNat)
  case atStart => exact ⟨0, 0, Nat.zero_le _, rfl, rfl, rfl⟩
  case round =>
    obtain ⟨k, t, hk, rfl, rfl, ht⟩ := hrel
    have HT : Hid (t = tot k) := ht
    have hb := tot_bound k
    rw [← ht] at hb
    clear ht
    obtain ⟨hb1, hb2⟩ := hb
    by_cases hlt : k < 3
    · obtain ⟨r, hr⟩ : ∃ r, r = bk ((k : Int) + 1) := ⟨_, rfl⟩
      have hrb : 0 ≤ r ∧ r ≤ 5000000000 := by have := bk_cases ((k : Int) + 1); omega
      obtain ⟨hr1, hr2⟩ := hrb
      have HR : Hid (bk ((k : Int) + 1) = r) := hr.symm
      clear hr
      go_wp2_with fail
      refine (zzback_is _ r HR.out w).mono ?_
      rintro e w1 ⟨rfl, rfl⟩
      go_wp2
      go_round
      case rel => exact ⟨k + 1, t + r, by omega, by go_num, rfl, by rw [tot, HT.out, HR.out]⟩
      case measure => simp only [intOf]; omega
    · obtain rfl : k = 3 := by omega
      obtain rfl : t = 210000000 := HT.out.trans tot_small.2.2.1
      go_wp2
      go_ret
      exact ⟨rfl, rfl⟩

set_option maxHeartbeats 2000000 in
theorem total_4 (w : World) : Calls Trym.prog 4 #[.int .i64 4] w (IsT w) := by
  go_enter Trym.func4, Trym.ntmps4
  go_wp2
  go_loop [3, 4] (fun s i => ∃ (k : Nat) (t : Int), k ≤ 4 ∧ i = .int .i64 ((k : Int) + 1) ∧ s = .int .i64 t ∧ t = tot k) (fun _ i => 4 + 1 - (intOf i).toNat)
  case atStart => exact ⟨0, 0, Nat.zero_le _, rfl, rfl, rfl⟩
  case round =>
    obtain ⟨k, t, hk, rfl, rfl, ht⟩ := hrel
    have HT : Hid (t = tot k) := ht
    have hb := tot_bound k
    rw [← ht] at hb
    clear ht
    obtain ⟨hb1, hb2⟩ := hb
    by_cases hlt : k < 4
    · obtain ⟨r, hr⟩ : ∃ r, r = bk ((k : Int) + 1) := ⟨_, rfl⟩
      have hrb : 0 ≤ r ∧ r ≤ 5000000000 := by have := bk_cases ((k : Int) + 1); omega
      obtain ⟨hr1, hr2⟩ := hrb
      have HR : Hid (bk ((k : Int) + 1) = r) := hr.symm
      clear hr
      go_wp2_with fail
      refine (zzback_is _ r HR.out w).mono ?_
      rintro e w1 ⟨rfl, rfl⟩
      go_wp2
      go_round
      case rel => exact ⟨k + 1, t + r, by omega, by go_num, rfl, by rw [tot, HT.out, HR.out]⟩
      case measure => simp only [intOf]; omega
    · obtain rfl : k = 4 := by omega
      obtain rfl : t = 450000000 := HT.out.trans tot_small.2.2.2.1
      go_wp2
      go_ret
      exact ⟨rfl, rfl⟩

set_option maxHeartbeats 2000000 in
theorem total_5 (w : World) : Calls Trym.prog 4 #[.int .i64 5] w (IsT w) := by
  go_enter Trym.func4, Trym.ntmps4
  go_wp2
  go_loop [3, 4] (fun s i => ∃ (k : Nat) (t : Int), k ≤ 5 ∧ i = .int .i64 ((k : Int) + 1) ∧ s = .int .i64 t ∧ t = tot k) (fun _ i => 5 + 1 - (intOf i).toNat)
  case atStart => exact ⟨0, 0, Nat.zero_le _, rfl, rfl, rfl⟩
  case round =>
    obtain ⟨k, t, hk, rfl, rfl, ht⟩ := hrel
    have HT : Hid (t = tot k) := ht
    have hb := tot_bound k
    rw [← ht] at hb
    clear ht
    obtain ⟨hb1, hb2⟩ := hb
    by_cases hlt : k < 5
    · obtain ⟨r, hr⟩ : ∃ r, r = bk ((k : Int) + 1) := ⟨_, rfl⟩
      have hrb : 0 ≤ r ∧ r ≤ 5000000000 := by have := bk_cases ((k : Int) + 1); omega
      obtain ⟨hr1, hr2⟩ := hrb
      have HR : Hid (bk ((k : Int) + 1) = r) := hr.symm
      clear hr
      go_wp2_with fail
      refine (zzback_is _ r HR.out w).mono ?_
      rintro e w1 ⟨rfl, rfl⟩
      go_wp2
      go_round
      case rel => exact ⟨k + 1, t + r, by omega, by go_num, rfl, by rw [tot, HT.out, HR.out]⟩
      case measure => simp only [intOf]; omega
    · obtain rfl : k = 5 := by omega
      obtain rfl : t = 930000000 := HT.out.trans tot_small.2.2.2.2.1
      go_wp2
      go_ret
      exact ⟨rfl, rfl⟩

set_option maxHeartbeats 2000000 in
theorem total_6 (w : World) : Calls Trym.prog 4 #[.int .i64 6] w (IsT w) := by
  go_enter Trym.func4, Trym.ntmps4
  go_wp2
  go_loop [3, 4] (fun s i => ∃ (k : Nat) (t : Int), k ≤ 6 ∧ i = .int .i64 ((k : Int) + 1) ∧ s = .int .i64 t ∧ t = tot k) (fun _ i => 6 + 1 - (intOf i).toNat)
  case atStart => exact ⟨0, 0, Nat.zero_le _, rfl, rfl, rfl⟩
  case round =>
    obtain ⟨k, t, hk, rfl, rfl, ht⟩ := hrel
    have HT : Hid (t = tot k) := ht
    have hb := tot_bound k
    rw [← ht] at hb
    clear ht
    obtain ⟨hb1, hb2⟩ := hb
    by_cases hlt : k < 6
    · obtain ⟨r, hr⟩ : ∃ r, r = bk ((k : Int) + 1) := ⟨_, rfl⟩
      have hrb : 0 ≤ r ∧ r ≤ 5000000000 := by have := bk_cases ((k : Int) + 1); omega
      obtain ⟨hr1, hr2⟩ := hrb
      have HR : Hid (bk ((k : Int) + 1) = r) := hr.symm
      clear hr
      go_wp2_with fail
      refine (zzback_is _ r HR.out w).mono ?_
      rintro e w1 ⟨rfl, rfl⟩
      go_wp2
      go_round
      case rel => exact ⟨k + 1, t + r, by omega, by go_num, rfl, by rw [tot, HT.out, HR.out]⟩
      case measure => simp only [intOf]; omega
    · obtain rfl : k = 6 := by omega
      obtain rfl : t = 1890000000 := HT.out.trans tot_small.2.2.2.2.2.1
      go_wp2
      go_ret
      exact ⟨rfl, rfl⟩

set_option maxHeartbeats 2000000 in
theorem total_7 (w : World) : Calls Trym.prog 4 #[.int .i64 7] w (IsT w) := by
  go_enter Trym.func4, Trym.ntmps4
  go_wp2
  go_loop [3, 4] (fun s i => ∃ (k : Nat) (t : Int), k ≤ 7 ∧ i = .int .i64 ((k : Int) + 1) ∧ s = .int .i64 t ∧ t = tot k) (fun _ i => 7 + 1 - (intOf i).toNat)
  case atStart => exact ⟨0, 0, Nat.zero_le _, rfl, rfl, rfl⟩
  case round =>
    obtain ⟨k, t, hk, rfl, rfl, ht⟩ := hrel
    have HT : Hid (t = tot k) := ht
    have hb := tot_bound k
    rw [← ht] at hb
    clear ht
    obtain ⟨hb1, hb2⟩ := hb
    by_cases hlt : k < 7
    · obtain ⟨r, hr⟩ : ∃ r, r = bk ((k : Int) + 1) := ⟨_, rfl⟩
      have hrb : 0 ≤ r ∧ r ≤ 5000000000 := by have := bk_cases ((k : Int) + 1); omega
      obtain ⟨hr1, hr2⟩ := hrb
      have HR : Hid (bk ((k : Int) + 1) = r) := hr.symm
      clear hr
      go_wp2_with fail
      refine (zzback_is _ r HR.out w).mono ?_
      rintro e w1 ⟨rfl, rfl⟩
      go_wp2
      go_round
      case rel => exact ⟨k + 1, t + r, by omega, by go_num, rfl, by rw [tot, HT.out, HR.out]⟩
      case measure => simp only [intOf]; omega
    · obtain rfl : k = 7 := by omega
      obtain rfl : t = 3810000000 := HT.out.trans tot_small.2.2.2.2.2.2.1
      go_wp2
      go_ret
      exact ⟨rfl, rfl⟩

set_option maxHeartbeats 2000000 in
theorem total_8 (w : World) : Calls Trym.prog 4 #[.int .i64 8] w (IsT w) := by
  go_enter Trym.func4, Trym.ntmps4
  go_wp2
  go_loop [3, 4] (fun s i => ∃ (k : Nat) (t : Int), k ≤ 8 ∧ i = .int .i64 ((k : Int) + 1) ∧ s = .int .i64 t ∧ t = tot k) (fun _ i => 8 + 1 - (intOf i).toNat)
  case atStart => exact ⟨0, 0, Nat.zero_le _, rfl, rfl, rfl⟩
  case round =>
    obtain ⟨k, t, hk, rfl, rfl, ht⟩ := hrel
    have HT : Hid (t = tot k) := ht
    have hb := tot_bound k
    rw [← ht] at hb
    clear ht
    obtain ⟨hb1, hb2⟩ := hb
    by_cases hlt : k < 8
    · obtain ⟨r, hr⟩ : ∃ r, r = bk ((k : Int) + 1) := ⟨_, rfl⟩
      have hrb : 0 ≤ r ∧ r ≤ 5000000000 := by have := bk_cases ((k : Int) + 1); omega
      obtain ⟨hr1, hr2⟩ := hrb
      have HR : Hid (bk ((k : Int) + 1) = r) := hr.symm
      clear hr
      go_wp2_with fail
      refine (zzback_is _ r HR.out w).mono ?_
      rintro e w1 ⟨rfl, rfl⟩
      go_wp2
      go_round
      case rel => exact ⟨k + 1, t + r, by omega, by go_num, rfl, by rw [tot, HT.out, HR.out]⟩
      case measure => simp only [intOf]; omega
    · obtain rfl : k = 8 := by omega
      obtain rfl : t = 7650000000 := HT.out.trans tot_small.2.2.2.2.2.2.2
      go_wp2
      go_ret
      exact ⟨rfl, rfl⟩

theorem total_any (n : Int) (w : World) : Calls Trym.prog 4 #[.int .i64 n] w (IsT w) := by
  by_cases h0 : n ≤ 0
  · exact total_neg n h0 w
  · by_cases hb : 65536 < n
    · exact total_over n hb w
    · by_cases h9 : 9 ≤ n
      · obtain ⟨m, rfl⟩ := Int.eq_ofNat_of_zero_le (show 0 ≤ n by omega)
        exact total_mid m (by omega) (by omega) w
      · have hc : n = 1 ∨ n = 2 ∨ n = 3 ∨ n = 4 ∨ n = 5 ∨ n = 6 ∨ n = 7 ∨ n = 8 := by omega
        rcases hc with rfl | rfl | rfl | rfl | rfl | rfl | rfl | rfl
        · exact total_1 w
        · exact total_2 w
        · exact total_3 w
        · exact total_4 w
        · exact total_5 w
        · exact total_6 w
        · exact total_7 w
        · exact total_8 w
end Go.Proofs.Qxb6608877aMods
