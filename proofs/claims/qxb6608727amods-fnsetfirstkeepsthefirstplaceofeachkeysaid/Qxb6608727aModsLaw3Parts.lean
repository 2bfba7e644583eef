import Derived.Test.Qxb6608727aModsPlaces
namespace Go.Proofs.Qxb6608727aMods
open Go.RowKit
set_option linter.unusedVariables false

set_option maxRecDepth 100000 in
set_option maxHeartbeats 2000000 in
theorem bytes5_any (ao ao2 ao3 ao4 : Option Addr) (n c n2 c2 n3 c3 n4 c4 : Nat) (ss kk : List ByteArray) (hn : ss.length = n) (hk : kk.length = n3) (hn2 : n2 ≤ maxLen) (hn4 : n4 ≤ maxLen) (w : World) (hv : View w ao ss) (hvk : View w ao3 kk) :
    Calls Trym.prog 5 #[.slice ao n c, .slice ao2 n2 c2, .slice ao3 n3 c3, .slice ao4 n4 c4] w (Within w (n ≤ 1048576 ∧ n3 ≤ 1048576)) := by
  have HN : Hid (ss.length = n) := hn
  have HV : Hid (View w ao ss) := hv
  have HK : Hid (kk.length = n3) := hk
  have HVK : Hid (View w ao3 kk) := hvk
  clear hn hv hk hvk
  unfold maxLen at hn2 hn4
  by_cases hbig : 1048576 < n
  · go_enter Trym.func5, Trym.ntmps5
    go_wp2
    go_ret
    exact ⟨_, rfl, rfl, fun h => by simp at h⟩
  have hd : decide ((1048576 : Int) < (n : Int)) = false := decide_eq_false (by omega)
  go_enter Trym.func5, Trym.ntmps5
  go_wp2
  go_loop [9, 10] (fun z i => ∃ (k : Nat) (y : Int), k ≤ n ∧ i = .int .i64 k ∧ z = .int .i64 y) (fun _ i => n - (intOf i).toNat)
  case atStart => exact ⟨0, _, Nat.zero_le _, rfl, rfl⟩
  case round =>
    obtain ⟨k, y, hk, rfl, rfl⟩ := hrel
    by_cases hlt : k < n
    · obtain ⟨b, o, hb, hix, hcell⟩ := HV.out.get HN.out hlt c
      generalize ss.getD k ByteArray.empty = s at hcell
      go_wp2
      · go_ret; exact ⟨_, rfl, rfl, fun h => by simp at h⟩
      · go_ret; exact ⟨_, rfl, rfl, fun h => by simp at h⟩
      · go_round
        case rel => exact ⟨k + 1, _, by omega, by go_num, rfl⟩
        case measure => simp [intOf]; omega
    · by_cases h2 : 1048576 < n2
      · go_wp2
        go_ret; exact ⟨_, rfl, rfl, fun h => by simp at h⟩
      have hd2 : decide ((1048576 : Int) < (n2 : Int)) = false := decide_eq_false (by omega)
      by_cases h3 : 1048576 < n3
      · go_wp2
        all_goals (go_ret; exact ⟨_, rfl, rfl, fun h => by simp at h⟩)
      have hd3 : decide ((1048576 : Int) < (n3 : Int)) = false := decide_eq_false (by omega)
      cases hy1 : decide ((1048576 : Int) < wrap64 (y + (n2 : Int)))
      · cases hy2 : decide ((1048576 : Int) < wrap64 (wrap64 (y + (n2 : Int)) + (n3 : Int)))
        · go_wp2
          go_loop [9, 11] (fun z i => ∃ (k : Nat) (y : Int), k ≤ n3 ∧ i = .int .i64 k ∧ z = .int .i64 y) (fun _ i => n3 - (intOf i).toNat)
          case atStart => exact ⟨0, _, Nat.zero_le _, rfl, rfl⟩
          case round =>
            obtain ⟨k', y', hk', rfl, rfl⟩ := hrel
            by_cases hlt' : k' < n3
            · obtain ⟨b, o, hb, hix, hcell⟩ := HVK.out.get HK.out hlt' c3
              generalize kk.getD k' ByteArray.empty = s at hcell
              go_wp2
              · go_ret; exact ⟨_, rfl, rfl, fun h => by simp at h⟩
              · go_ret; exact ⟨_, rfl, rfl, fun h => by simp at h⟩
              · go_round
                case rel => exact ⟨k' + 1, _, by omega, by go_num, rfl⟩
                case measure => simp [intOf]; omega
            · go_wp2
              all_goals (go_ret; exact ⟨_, rfl, rfl, fun _ => ⟨by omega, by omega⟩⟩)
        · go_wp2
          go_ret; exact ⟨_, rfl, rfl, fun h => by simp at h⟩
      · go_wp2
        go_ret; exact ⟨_, rfl, rfl, fun h => by simp at h⟩

/-! ### The plain law -/
/-- The map after setFirst for the first j pairs. -/
def sfF (M : PM) (ks : List ByteArray) (vs : List Int) : Nat → PM
  | 0 => M
  | j + 1 => setF (sfF M ks vs j) (kAt ks j) (vAt vs j)
/-- .. and its size. -/
def szF (M : PM) (ks : List ByteArray) (vs : List Int) (s0 : Nat) : Nat → Nat
  | 0 => s0
  | j + 1 => if (sfF M ks vs j (kAt ks j)).isSome then szF M ks vs s0 j else szF M ks vs s0 j + 1

theorem setF_keep {M : PM} {k s : List UInt8} {v x : Int} (h : M s = some x) : setF M k v s = some x := by
  unfold setF
  cases hk : (M k).isSome
  · simp only [Bool.false_eq_true, if_false]
    unfold upd
    rw [if_neg (fun e => by rw [e, h] at hk; cases hk)]
    exact h
  · simpa using h
theorem setF_other {M : PM} {k s : List UInt8} {v : Int} (h : ¬ k = s) : setF M k v s = M s := by
  unfold setF
  split
  · rfl
  · unfold upd; rw [if_neg h]
theorem setF_new {M : PM} {k : List UInt8} {v : Int} (h : M k = none) : setF M k v k = some v := by
  unfold setF; rw [h]; simp [upd]

variable {M : PM} {ks : List ByteArray} {vs : List Int}

theorem sfF_old {s : List UInt8} {x : Int} (h : M s = some x) : ∀ j, sfF M ks vs j s = some x
  | 0 => h
  | j + 1 => setF_keep (sfF_old h j)
theorem sfF_none {s : List UInt8} (h : M s = none) : ∀ j, NoneTo ks s j → sfF M ks vs j s = none
  | 0, _ => h
  | j + 1, hn => by
    rw [sfF, setF_other (hn j (by omega))]
    exact sfF_none h j (fun q hq => hn q (by omega))
theorem sfF_first {s : List UInt8} (h : M s = none) {p : Nat} (hp : FirstAt ks s p) : ∀ j, p < j → sfF M ks vs j s = some (vAt vs p)
  | 0, hj => by omega
  | j + 1, hj => by
    by_cases e : p = j
    · subst e
      rw [sfF, hp.1]
      exact setF_new (sfF_none h p hp.2)
    · exact setF_keep (sfF_first h hp j (by omega))

/-- The first place of a key that stands at j is no later. -/
theorem first_le {s : List UInt8} {p j : Nat} (hp : FirstAt ks s p) (hj : kAt ks j = s) : p ≤ j := by
  apply Nat.le_of_not_lt
  intro h
  exact hp.2 j h hj

theorem szF_same {s0 j : Nat} {x : Int} (h : sfF M ks vs j (kAt ks j) = some x) : szF M ks vs s0 (j + 1) = szF M ks vs s0 j := by
  rw [szF, h]; rfl
theorem szF_more {s0 j : Nat} (h : sfF M ks vs j (kAt ks j) = none) : szF M ks vs s0 (j + 1) = szF M ks vs s0 j + 1 := by
  rw [szF, h]; rfl
end Go.Proofs.Qxb6608727aMods
