import Derived.Test.Qxb6606001aModsSort
import Derived.Test.Qxb6606001aModsGuards
namespace Go.Proofs.Qxb6606001aMods
open Go.RowKit
set_option linter.unusedVariables false

set_option maxHeartbeats 400000 in
theorem bytes5_empty (ao : Option Addr) (c : Nat) (f : ByteArray) (hf : f.size ≤ maxLen) (w : World) :
    Calls Trym.prog 5 #[.slice ao 0 c, .string f] w (AnyBool w) := by
  unfold maxLen at hf
  go_enter Trym.func5, Trym.ntmps5
  go_wp2
  go_rounds 1
  all_goals (go_ret; exact ⟨_, rfl, rfl⟩)

set_option maxHeartbeats 400000 in
theorem bytes5_big (ao : Option Addr) (n c : Nat) (hbig : 1048576 < n) (f : ByteArray) (w : World) :
    Calls Trym.prog 5 #[.slice ao n c, .string f] w (AnyBool w) := by
  go_enter Trym.func5, Trym.ntmps5
  go_wp2
  go_ret
  exact ⟨_, rfl, rfl⟩

set_option maxHeartbeats 400000 in
theorem bytes5_some (b off n c : Nat) (ss : List ByteArray) (hn : ss.length = n) (f : ByteArray) (hf : f.size ≤ maxLen) (hsmall : n ≤ 1048576) (w : World) (hs : Sat w b off ss) :
    Calls Trym.prog 5 #[.slice (some ⟨b, off, none⟩) n c, .string f] w (AnyBool w) := by
  unfold maxLen at hf
  have HN : Hid (ss.length = n) := hn
  have HS : Hid (Sat w b off ss) := hs
  clear hn hs
  have hd : decide ((1048576 : Int) < (n : Int)) = false := decide_eq_false (by omega)
  go_enter Trym.func5, Trym.ntmps5
  go_wp2
  go_loop [5, 6] (fun z i => ∃ (k : Nat) (y : Int), k ≤ n ∧ i = .int .i64 k ∧ z = .int .i64 y) (fun _ i => n - (intOf i).toNat)
  case atStart => exact ⟨0, _, Nat.zero_le _, rfl, rfl⟩
  case round =>
    obtain ⟨k, y, hk, rfl, rfl⟩ := hrel
    by_cases hlt : k < n
    · obtain ⟨s, hcell⟩ : ∃ s, w.cell? ⟨b, off + k, none⟩ = some (.string s) := ⟨_, HS.out k (by rw [HN.out]; exact hlt)⟩
      go_wp2
      · go_ret; exact ⟨_, rfl, rfl⟩
      · go_ret; exact ⟨_, rfl, rfl⟩
      · go_round
        case rel => exact ⟨k + 1, _, by omega, by go_num, rfl⟩
        case measure => simp [intOf]; omega
    · go_wp2
      all_goals (go_ret; exact ⟨_, rfl, rfl⟩)

theorem bytes5_any (ao : Option Addr) (c : Nat) (ss : List ByteArray) (f : ByteArray) (hf : f.size ≤ maxLen) (w : World) (hs : View w ao ss) :
    Calls Trym.prog 5 #[.slice ao ss.length c, .string f] w (AnyBool w) := by
  by_cases hbig : 1048576 < ss.length
  · exact bytes5_big _ _ _ hbig _ _
  · rcases hs with rfl | ⟨b, off, rfl, _, hs⟩
    · exact bytes5_empty _ _ _ hf _
    · exact bytes5_some _ _ _ _ ss rfl _ hf (by omega) _ hs


theorem bytes5_at (ao : Option Addr) (n c : Nat) (ss : List ByteArray) (hn : ss.length = n) (f : ByteArray) (hf : f.size ≤ maxLen) (w : World) (hs : View w ao ss) : Calls Trym.prog 5 #[.slice ao n c, .string f] w (AnyBool w) := by
  subst hn
  exact bytes5_any _ _ _ _ hf _ hs
theorem total_at (ao : Option Addr) (n c : Nat) (ss : List ByteArray) (hn : ss.length = n) (t : Int) (hsmall : n ≤ 65536) (w : World) (hs : View w ao ss) : Calls Trym.prog 6 #[.slice ao n c, .int .i64 t] w (AnyInt w) := by
  subst hn
  exact total_any _ _ _ _ hsmall _ hs
theorem clone_to (ao : Option Addr) (n c : Nat) (ss : List ByteArray) (hn : ss.length = n) (hsmall : n ≤ 1048576) (w : World) (hs : View w ao ss) :
    Calls Trym.prog 7 #[.slice ao n c] w fun e w' => ∃ ao' c', e = .returned (.slice ao' n c') ∧ View w' ao' ss ∧ Below w.heap.size w w' := by
  subst hn
  exact clone_any _ _ _ hsmall _ hs
theorem zztakes_to (ao : Option Addr) (n c : Nat) (ss : List ByteArray) (f : ByteArray) (r : Bool) (hn : ss.length = n) (hr : tk ss f = r) (hsmall : n ≤ 1048577) (w : World) (hs : View w ao ss) :
    Calls Trym.prog 9 #[.slice ao n c, .string f] w (Says w r) := by
  subst hn; subst hr
  exact zztakes_any _ _ _ _ hsmall _ hs

def nth (ss : List ByteArray) : Nat → ByteArray := fun j => ss.getD j ByteArray.empty

theorem clF_nth {w : World} {g n : Nat} {ss : List ByteArray} (h : w.rowIs g 9 n (clF ss n)) : w.rowIs g 9 n (strF (nth ss)) := by
  refine h.congr fun j hj => ?_
  simp only [clF, strF, nth]
  rw [if_pos hj]

theorem nth_zero (w : World) : (w.alloc (.cells (madeCells #[.string ByteArray.empty] 0) 9)).rowIs w.heap.size 9 0 (strF (nth [])) :=
  (World.rowIs_made w (.string ByteArray.empty) 0 9).congr fun j hj => by omega

/-- A name is found in the sorted copy just if it is among the names. -/
theorem tk_iff {ss : List ByteArray} {f : ByteArray} {n : Nat} (hn : ss.length = n) {F : Nat → ByteArray} (hs : SameOnes F (nth ss) n) : tk ss f = true ↔ ∃ p, p < n ∧ (F p).toList = f.toList := by
  unfold tk
  rw [List.any_eq_true]
  constructor
  · rintro ⟨s, hm, he⟩
    obtain ⟨p, hp, e⟩ := List.getElem_of_mem hm
    obtain ⟨q, hq, e'⟩ := (hs s).2 ⟨p, by omega, by unfold nth; simp [List.getD, hp, e]⟩
    exact ⟨q, hq, by rw [e']; exact beq_iff_eq.1 he⟩
  · rintro ⟨p, hp, e⟩
    obtain ⟨q, hq, e'⟩ := (hs (F p)).1 ⟨p, hp, rfl⟩
    refine ⟨F p, ?_, beq_iff_eq.2 e⟩
    rw [← e']
    unfold nth
    rw [show ss.getD q ByteArray.empty = ss[q] by simp [List.getD, show q < ss.length by omega]]
    exact List.getElem_mem _

def SLo (F : Nat → ByteArray) (f : ByteArray) (lo : Nat) : Prop := ∀ p, p < lo → Op.bytesLess (F p).toList f.toList = true
def SHi (F : Nat → ByteArray) (f : ByteArray) (n hi : Nat) : Prop := ∀ p, hi ≤ p → p < n → Op.bytesLess (F p).toList f.toList = false

theorem found_yes {ss : List ByteArray} {f : ByteArray} {n lo : Nat} (hn : ss.length = n) {F : Nat → ByteArray} (hs : SameOnes F (nth ss) n) (h : lo < n) (e : ((F lo).toList == f.toList) = true) : tk ss f = true :=
  (tk_iff hn hs).2 ⟨lo, h, beq_iff_eq.1 e⟩
theorem found_no {ss : List ByteArray} {f : ByteArray} {n lo : Nat} (hn : ss.length = n) {F : Nat → ByteArray} (ho : Ordered F n) (hs : SameOnes F (nth ss) n) (h1 : SLo F f lo) (h2 : SHi F f n lo) (e : lo < n → ((F lo).toList == f.toList) = false) : tk ss f = false := by
  cases h : tk ss f
  · rfl
  · exact absurd ((tk_iff hn hs).1 h) (search_none ho h1 h2 e)
end Go.Proofs.Qxb6606001aMods
