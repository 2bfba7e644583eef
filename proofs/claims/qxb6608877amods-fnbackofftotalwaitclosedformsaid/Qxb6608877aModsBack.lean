import Derived.Test.Qxb6608877aModsRows
import Derived.WalkKit
import Derived.WalkSpells
import Derived.WalkLawsBesides
import Derived.Handy
namespace Go.Proofs.Qxb6608877aMods
open Go.RowKit
set_option linter.unusedVariables false

/-- It answers r, and nothing has turned. -/
def IsI (w : World) (r : Int) (e : Ending) (w' : World) : Prop := e = .returned (.int .i64 r) ∧ w = w'

theorem back_le1 (f : Int) (h : f ≤ 1) (w : World) : Calls Trym.prog 7 #[.int .i64 f] w (IsI w 30000000) := by
  go_enter Trym.func7, Trym.ntmps7
  go_wp2
  go_rounds 1
  go_ret
  exact ⟨rfl, rfl⟩

theorem back_2 (w : World) : Calls Trym.prog 7 #[.int .i64 2] w (IsI w 60000000) := by
  go_enter Trym.func7, Trym.ntmps7
  go_wp2
  go_rounds 2
  go_ret
  exact ⟨rfl, rfl⟩

theorem back_3 (w : World) : Calls Trym.prog 7 #[.int .i64 3] w (IsI w 120000000) := by
  go_enter Trym.func7, Trym.ntmps7
  go_wp2
  go_rounds 3
  go_ret
  exact ⟨rfl, rfl⟩

theorem back_4 (w : World) : Calls Trym.prog 7 #[.int .i64 4] w (IsI w 240000000) := by
  go_enter Trym.func7, Trym.ntmps7
  go_wp2
  go_rounds 4
  go_ret
  exact ⟨rfl, rfl⟩

theorem back_5 (w : World) : Calls Trym.prog 7 #[.int .i64 5] w (IsI w 480000000) := by
  go_enter Trym.func7, Trym.ntmps7
  go_wp2
  go_rounds 5
  go_ret
  exact ⟨rfl, rfl⟩

theorem back_6 (w : World) : Calls Trym.prog 7 #[.int .i64 6] w (IsI w 960000000) := by
  go_enter Trym.func7, Trym.ntmps7
  go_wp2
  go_rounds 6
  go_ret
  exact ⟨rfl, rfl⟩

theorem back_7 (w : World) : Calls Trym.prog 7 #[.int .i64 7] w (IsI w 1920000000) := by
  go_enter Trym.func7, Trym.ntmps7
  go_wp2
  go_rounds 7
  go_ret
  exact ⟨rfl, rfl⟩

theorem back_8 (w : World) : Calls Trym.prog 7 #[.int .i64 8] w (IsI w 3840000000) := by
  go_enter Trym.func7, Trym.ntmps7
  go_wp2
  go_rounds 8
  go_ret
  exact ⟨rfl, rfl⟩

theorem back_9 (w : World) : Calls Trym.prog 7 #[.int .i64 9] w (IsI w 5000000000) := by
  go_enter Trym.func7, Trym.ntmps7
  go_wp2
  go_rounds 9
  go_ret
  exact ⟨rfl, rfl⟩

theorem back_big (f : Int) (h : 10 ≤ f) (w : World) : Calls Trym.prog 7 #[.int .i64 f] w (IsI w 5000000000) := by
  go_enter Trym.func7, Trym.ntmps7
  go_wp2
  go_rounds 9
  go_ret
  exact ⟨rfl, rfl⟩

/-- The pause after the f-th failed try. -/
def bk (f : Int) : Int :=
  if f ≤ 1 then 30000000 else if f = 2 then 60000000 else if f = 3 then 120000000 else if f = 4 then 240000000 else if f = 5 then 480000000 else if f = 6 then 960000000 else if f = 7 then 1920000000 else if f = 8 then 3840000000 else 5000000000

theorem bk_cases (f : Int) : (f ≤ 1 ∧ bk f = 30000000) ∨ (f = 2 ∧ bk f = 60000000) ∨ (f = 3 ∧ bk f = 120000000) ∨ (f = 4 ∧ bk f = 240000000) ∨ (f = 5 ∧ bk f = 480000000) ∨ (f = 6 ∧ bk f = 960000000) ∨ (f = 7 ∧ bk f = 1920000000) ∨ (f = 8 ∧ bk f = 3840000000) ∨ (9 ≤ f ∧ bk f = 5000000000) := by
  unfold bk
  omega

theorem back_any (f : Int) (w : World) : Calls Trym.prog 7 #[.int .i64 f] w (IsI w (bk f)) := by
  rcases bk_cases f with ⟨h, e⟩ | ⟨h, e⟩ | ⟨h, e⟩ | ⟨h, e⟩ | ⟨h, e⟩ | ⟨h, e⟩ | ⟨h, e⟩ | ⟨h, e⟩ | ⟨h, e⟩
  · rw [e]; exact back_le1 f h w
  · rw [e, h]; exact back_2 w
  · rw [e, h]; exact back_3 w
  · rw [e, h]; exact back_4 w
  · rw [e, h]; exact back_5 w
  · rw [e, h]; exact back_6 w
  · rw [e, h]; exact back_7 w
  · rw [e, h]; exact back_8 w
  · rw [e]
    by_cases h9 : f = 9
    · rw [h9]; exact back_9 w
    · exact back_big f (by omega) w

theorem zzback_any (f : Int) (w : World) : Calls Trym.prog 5 #[.int .i64 f] w (IsI w (bk f)) := by
  obtain ⟨r, hr⟩ : ∃ r, r = bk f := ⟨_, rfl⟩
  have h := back_any f w
  rw [← hr] at h ⊢
  have H : Hid (Calls Trym.prog 7 #[.int .i64 f] w (IsI w r)) := h
  clear h hr
  go_enter Trym.func5, Trym.ntmps5
  go_wp2_with fail
  refine H.out.mono ?_
  rintro e w1 ⟨rfl, rfl⟩
  go_wp2
  go_ret
  exact ⟨rfl, rfl⟩
theorem zzback_is (f r : Int) (hr : bk f = r) (w : World) : Calls Trym.prog 5 #[.int .i64 f] w (IsI w r) := by
  subst hr; exact zzback_any f w
end Go.Proofs.Qxb6608877aMods
