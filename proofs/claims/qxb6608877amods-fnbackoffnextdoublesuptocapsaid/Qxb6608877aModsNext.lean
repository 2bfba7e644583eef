import Derived.Test.Qxb6608877aModsBack
namespace Go.Proofs.Qxb6608877aMods
open Go.RowKit
set_option linter.unusedVariables false

/-- It answers true, and nothing has turned. -/
def IsT (w : World) (e : Ending) (w' : World) : Prop := e = .returned (.bool true) ∧ w' = w

theorem model_le1 (f : Int) (h : f ≤ 1) (w : World) : Calls Trym.prog 6 #[.int .i64 f] w (IsI w 30000000) := by
  go_enter Trym.func6, Trym.ntmps6
  go_wp2
  go_ret
  exact ⟨rfl, rfl⟩
theorem model_ge9 (f : Int) (h : 9 ≤ f) (w : World) : Calls Trym.prog 6 #[.int .i64 f] w (IsI w 5000000000) := by
  go_enter Trym.func6, Trym.ntmps6
  go_wp2
  go_ret
  exact ⟨rfl, rfl⟩
theorem model_2 (w : World) : Calls Trym.prog 6 #[.int .i64 2] w (IsI w 60000000) := by
  go_enter Trym.func6, Trym.ntmps6
  go_wp2
  go_ret
  exact ⟨rfl, rfl⟩
theorem model_3 (w : World) : Calls Trym.prog 6 #[.int .i64 3] w (IsI w 120000000) := by
  go_enter Trym.func6, Trym.ntmps6
  go_wp2
  go_ret
  exact ⟨rfl, rfl⟩
theorem model_4 (w : World) : Calls Trym.prog 6 #[.int .i64 4] w (IsI w 240000000) := by
  go_enter Trym.func6, Trym.ntmps6
  go_wp2
  go_ret
  exact ⟨rfl, rfl⟩
theorem model_5 (w : World) : Calls Trym.prog 6 #[.int .i64 5] w (IsI w 480000000) := by
  go_enter Trym.func6, Trym.ntmps6
  go_wp2
  go_ret
  exact ⟨rfl, rfl⟩
theorem model_6 (w : World) : Calls Trym.prog 6 #[.int .i64 6] w (IsI w 960000000) := by
  go_enter Trym.func6, Trym.ntmps6
  go_wp2
  go_ret
  exact ⟨rfl, rfl⟩
theorem model_7 (w : World) : Calls Trym.prog 6 #[.int .i64 7] w (IsI w 1920000000) := by
  go_enter Trym.func6, Trym.ntmps6
  go_wp2
  go_ret
  exact ⟨rfl, rfl⟩
theorem model_8 (w : World) : Calls Trym.prog 6 #[.int .i64 8] w (IsI w 3840000000) := by
  go_enter Trym.func6, Trym.ntmps6
  go_wp2
  go_ret
  exact ⟨rfl, rfl⟩

theorem bk_low (f : Int) (h : f ≤ 1) : bk f = 30000000 := by have := bk_cases f; omega
theorem bk_high (f : Int) (h : 9 ≤ f) : bk f = 5000000000 := by have := bk_cases f; omega

theorem next_max (w : World) : Calls Trym.prog 3 #[.int .i64 9223372036854775807] w (IsT w) := by
  go_enter Trym.func3, Trym.ntmps3
  go_wp2
  go_ret
  exact ⟨rfl, rfl⟩

theorem next_low (n : Int) (h : n ≤ 0) (hl : -9223372036854775808 ≤ n) (w : World) : Calls Trym.prog 3 #[.int .i64 n] w (IsT w) := by
  go_enter Trym.func3, Trym.ntmps3
  go_wp2_with fail
  refine (zzback_is n 30000000 (bk_low n (by omega)) w).mono ?_
  rintro e w1 ⟨rfl, rfl⟩
  go_wp2_with fail
  refine (zzback_is (n + 1) 30000000 (bk_low (n + 1) (by omega)) w).mono ?_
  rintro e w1 ⟨rfl, rfl⟩
  go_wp2_with fail
  refine (model_le1 n (by omega) w).mono ?_
  rintro e w1 ⟨rfl, rfl⟩
  go_wp2
  go_ret
  exact ⟨rfl, rfl⟩

theorem next_high (n : Int) (h : 9 ≤ n) (hl : n < 9223372036854775807) (w : World) : Calls Trym.prog 3 #[.int .i64 n] w (IsT w) := by
  go_enter Trym.func3, Trym.ntmps3
  go_wp2_with fail
  refine (zzback_is n 5000000000 (bk_high n h) w).mono ?_
  rintro e w1 ⟨rfl, rfl⟩
  go_wp2_with fail
  refine (zzback_is (n + 1) 5000000000 (bk_high (n + 1) (by omega)) w).mono ?_
  rintro e w1 ⟨rfl, rfl⟩
  go_wp2_with fail
  refine (model_ge9 n h w).mono ?_
  rintro e w1 ⟨rfl, rfl⟩
  go_wp2
  go_ret
  exact ⟨rfl, rfl⟩

theorem next_1 (w : World) : Calls Trym.prog 3 #[.int .i64 1] w (IsT w) := by
  go_enter Trym.func3, Trym.ntmps3
  go_wp2_with fail
  refine (zzback_is 1 30000000 (by unfold bk; omega) w).mono ?_
  rintro e w1 ⟨rfl, rfl⟩
  go_wp2_with fail
  refine (zzback_is 2 60000000 (by unfold bk; omega) w).mono ?_
  rintro e w1 ⟨rfl, rfl⟩
  go_wp2_with fail
  refine (model_le1 1 (by omega) w).mono ?_
  rintro e w1 ⟨rfl, rfl⟩
  go_wp2
  go_ret
  exact ⟨rfl, rfl⟩

theorem next_2 (w : World) : Calls Trym.prog 3 #[.int .i64 2] w (IsT w) := by
  go_enter Trym.func3, Trym.ntmps3
  go_wp2_with fail
  refine (zzback_is 2 60000000 (by unfold bk; omega) w).mono ?_
  rintro e w1 ⟨rfl, rfl⟩
  go_wp2_with fail
  refine (zzback_is 3 120000000 (by unfold bk; omega) w).mono ?_
  rintro e w1 ⟨rfl, rfl⟩
  go_wp2_with fail
  refine (model_2 w).mono ?_
  rintro e w1 ⟨rfl, rfl⟩
  go_wp2
  go_ret
  exact ⟨rfl, rfl⟩

theorem next_3 (w : World) : Calls Trym.prog 3 #[.int .i64 3] w (IsT w) := by
  go_enter Trym.func3, Trym.ntmps3
  go_wp2_with fail
  refine (zzback_is 3 120000000 (by unfold bk; omega) w).mono ?_
  rintro e w1 ⟨rfl, rfl⟩
  go_wp2_with fail
  refine (zzback_is 4 240000000 (by unfold bk; omega) w).mono ?_
  rintro e w1 ⟨rfl, rfl⟩
  go_wp2_with fail
  refine (model_3 w).mono ?_
  rintro e w1 ⟨rfl, rfl⟩
  go_wp2
  go_ret
  exact ⟨rfl, rfl⟩

theorem next_4 (w : World) : Calls Trym.prog 3 #[.int .i64 4] w (IsT w) := by
  go_enter Trym.func3, Trym.ntmps3
  go_wp2_with fail
  refine (zzback_is 4 240000000 (by unfold bk; omega) w).mono ?_
  rintro e w1 ⟨rfl, rfl⟩
  go_wp2_with fail
  refine (zzback_is 5 480000000 (by unfold bk; omega) w).mono ?_
  rintro e w1 ⟨rfl, rfl⟩
  go_wp2_with fail
  refine (model_4 w).mono ?_
  rintro e w1 ⟨rfl, rfl⟩
  go_wp2
  go_ret
  exact ⟨rfl, rfl⟩

theorem next_5 (w : World) : Calls Trym.prog 3 #[.int .i64 5] w (IsT w) := by
  go_enter Trym.func3, Trym.ntmps3
  go_wp2_with fail
  refine (zzback_is 5 480000000 (by unfold bk; omega) w).mono ?_
  rintro e w1 ⟨rfl, rfl⟩
  go_wp2_with fail
  refine (zzback_is 6 960000000 (by unfold bk; omega) w).mono ?_
  rintro e w1 ⟨rfl, rfl⟩
  go_wp2_with fail
  refine (model_5 w).mono ?_
  rintro e w1 ⟨rfl, rfl⟩
  go_wp2
  go_ret
  exact ⟨rfl, rfl⟩

theorem next_6 (w : World) : Calls Trym.prog 3 #[.int .i64 6] w (IsT w) := by
  go_enter Trym.func3, Trym.ntmps3
  go_wp2_with fail
  refine (zzback_is 6 960000000 (by unfold bk; omega) w).mono ?_
  rintro e w1 ⟨rfl, rfl⟩
  go_wp2_with fail
  refine (zzback_is 7 1920000000 (by unfold bk; omega) w).mono ?_
  rintro e w1 ⟨rfl, rfl⟩
  go_wp2_with fail
  refine (model_6 w).mono ?_
  rintro e w1 ⟨rfl, rfl⟩
  go_wp2
  go_ret
  exact ⟨rfl, rfl⟩

theorem next_7 (w : World) : Calls Trym.prog 3 #[.int .i64 7] w (IsT w) := by
  go_enter Trym.func3, Trym.ntmps3
  go_wp2_with fail
  refine (zzback_is 7 1920000000 (by unfold bk; omega) w).mono ?_
  rintro e w1 ⟨rfl, rfl⟩
  go_wp2_with fail
  refine (zzback_is 8 3840000000 (by unfold bk; omega) w).mono ?_
  rintro e w1 ⟨rfl, rfl⟩
  go_wp2_with fail
  refine (model_7 w).mono ?_
  rintro e w1 ⟨rfl, rfl⟩
  go_wp2
  go_ret
  exact ⟨rfl, rfl⟩

theorem next_8 (w : World) : Calls Trym.prog 3 #[.int .i64 8] w (IsT w) := by
  go_enter Trym.func3, Trym.ntmps3
  go_wp2_with fail
  refine (zzback_is 8 3840000000 (by unfold bk; omega) w).mono ?_
  rintro e w1 ⟨rfl, rfl⟩
  go_wp2_with fail
  refine (zzback_is 9 5000000000 (by unfold bk; omega) w).mono ?_
  rintro e w1 ⟨rfl, rfl⟩
  go_wp2_with fail
  refine (model_8 w).mono ?_
  rintro e w1 ⟨rfl, rfl⟩
  go_wp2
  go_ret
  exact ⟨rfl, rfl⟩

theorem next_any (n : Int) (h1 : -9223372036854775808 ≤ n) (h2 : n ≤ 9223372036854775807) (w : World) : Calls Trym.prog 3 #[.int .i64 n] w (IsT w) := by
  by_cases h0 : n ≤ 0
  · exact next_low n h0 h1 w
  · by_cases hm : n = 9223372036854775807
    · rw [hm]; exact next_max w
    · by_cases h9 : 9 ≤ n
      · exact next_high n h9 (by omega) w
      · have hc : n = 1 ∨ n = 2 ∨ n = 3 ∨ n = 4 ∨ n = 5 ∨ n = 6 ∨ n = 7 ∨ n = 8 := by omega
        rcases hc with rfl | rfl | rfl | rfl | rfl | rfl | rfl | rfl
        · exact next_1 w
        · exact next_2 w
        · exact next_3 w
        · exact next_4 w
        · exact next_5 w
        · exact next_6 w
        · exact next_7 w
        · exact next_8 w
end Go.Proofs.Qxb6608877aMods
