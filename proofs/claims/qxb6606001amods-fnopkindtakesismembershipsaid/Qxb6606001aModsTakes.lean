import Derived.Test.Qxb6606001aModsClone
namespace Go.Proofs.Qxb6606001aMods
open Go.RowKit
set_option linter.unusedVariables false

theorem Trym.info31 : (Trym.prog.info? 31).map (fun i => (i.zero, i.size, i.bytes)) = some (some (.agg #[.string ByteArray.empty, .nilFunc, .nilFunc]), 3, 32) := by kernel_rfl

/-- 'make([]opField, n)'. -/
theorem make_fields (n : Nat) (hb : n ≤ 1048577) (w : World) :
    (Instr.makeSlice 27 (.int .i64 (n : Int)) (.int .i64 (n : Int))).run Trym.prog w = .ok (.slice (some ⟨w.heap.size, 0, none⟩) n n) (w.alloc (.cells (madeCells #[.string ByteArray.empty, .nilFunc, .nilFunc] (n * 3)) 31)) := by
  obtain ⟨i, hi, hz, hs, hbt⟩ := info_parts Trym.info31
  have hr := run_make (P := Trym.prog) w 27 31 i _ Trym.underlying27 hi hz .i64 .i64 n n (by omega) (Int.le_refl _) (by rw [hbt]; omega) (by omega)
  simp only [Int.toNat_natCast, hs] at hr
  exact hr

/-- What the row of fields holds after k rounds: three cells a field, the name first. -/
def fdF (ss : List ByteArray) (k : Nat) : Nat → Value := fun j => if j % 3 = 0 then .string (if j / 3 < k then ss.getD (j / 3) ByteArray.empty else ByteArray.empty) else .nilFunc

theorem fdF_zero (w : World) (ss : List ByteArray) (n : Nat) : (w.alloc (.cells (madeCells #[.string ByteArray.empty, .nilFunc, .nilFunc] (n * 3)) 31)).rowIs w.heap.size 31 (n * 3) (fdF ss 0) := by
  have h := World.rowIs_alloc w (madeCells #[.string ByteArray.empty, .nilFunc, .nilFunc] (n * 3)) 31 (fdF ss 0) (fun i hi => by
    rw [size_madeCells] at hi
    have h3 : i % 3 = 0 ∨ i % 3 = 1 ∨ i % 3 = 2 := by omega
    simp only [madeCells, fdF]
    rcases h3 with h | h | h <;> simp [hi, h])
  rwa [size_madeCells] at h

theorem fdF_step {w : World} {g t n k : Nat} {ss : List ByteArray} (h : w.rowIs g t n (fdF ss k)) :
    (((w.setCell ⟨g, k * 3, none⟩ (.string (ss.getD k ByteArray.empty))).setCell ⟨g, k * 3 + 1, none⟩ .nilFunc).setCell ⟨g, k * 3 + 2, none⟩ .nilFunc).rowIs g t n (fdF ss (k + 1)) := by
  refine (((h.set (k * 3) _).set (k * 3 + 1) _).set (k * 3 + 2) _).congr fun j hj => ?_
  by_cases e2 : j = k * 3 + 2
  · subst e2; simp [fdF]
  · by_cases e1 : j = k * 3 + 1
    · subst e1; simp [fdF]
    · by_cases e0 : j = k * 3
      · subst e0; simp [fdF]
      · simp only [if_neg e2, if_neg e1, if_neg e0, fdF]
        by_cases hm : j % 3 = 0
        · rw [if_pos hm, if_pos hm]
          have : (j / 3 < k) = (j / 3 < k + 1) := by apply propext; omega
          simp only [this]
        · rw [if_neg hm, if_neg hm]

/-- Is f among the names? -/
def tk (ss : List ByteArray) (f : ByteArray) : Bool := ss.any fun s => s.toList == f.toList

theorem tk_step {ss : List ByteArray} {f : ByteArray} {k : Nat} (hk : k < ss.length) (h : tk (ss.take k) f = false) (hs : ((ss.getD k ByteArray.empty).toList == f.toList) = false) : tk (ss.take (k + 1)) f = false := by
  rw [List.take_succ_eq_append_getElem hk]
  unfold tk at h ⊢
  rw [List.any_append, h]
  have e : ss.getD k ByteArray.empty = ss[k] := by simp [List.getD, hk]
  rw [e] at hs
  simp [hs]

theorem tk_hit {ss : List ByteArray} {f : ByteArray} {k : Nat} (hk : k < ss.length) (hs : ((ss.getD k ByteArray.empty).toList == f.toList) = true) : tk ss f = true := by
  have e : ss.getD k ByteArray.empty = ss[k] := by simp [List.getD, hk]
  rw [e] at hs
  exact List.any_eq_true.2 ⟨_, List.getElem_mem hk, hs⟩

/-- It answers r, and nothing old has turned. -/
def Says (w : World) (r : Bool) (e : Ending) (w' : World) : Prop := e = .returned (.bool r) ∧ Below w.heap.size w w'

set_option maxHeartbeats 400000 in
theorem takes_any (g n : Nat) (ss : List ByteArray) (hn : ss.length = n) (hsmall : n ≤ 1048577) (f : ByteArray) (w : World) (hrow : w.rowIs g 31 (n * 3) (fdF ss n)) :
    Calls Trym.prog 11 #[.agg #[.slice (some ⟨g, 0, none⟩) n n, .nilFunc, .int .i64 0, .bool false, .nilFunc], .agg #[.string f, .nilFunc, .nilFunc]] w (Says w (tk ss f)) := by
  have HN : Hid (ss.length = n) := hn
  clear hn
  have hg := hrow.lt
  go_enter Trym.func11, Trym.ntmps11
  go_wp2
  go_loopw [10] (fun i wr => ∃ k : Nat, k ≤ n ∧ i = .int .i64 k ∧ wr.rowIs g 31 (n * 3) (fdF ss n) ∧ wr.cell? ⟨w.heap.size + 1, 0, none⟩ = some (.string f) ∧ w.heap.size + 2 ≤ wr.heap.size ∧ Below w.heap.size w wr ∧ tk (ss.take k) f = false) (fun i _ => n - (intOf i).toNat)
  case atStart => exact ⟨0, Nat.zero_le _, rfl, (hrow.alloc _).alloc _, by simp, by simp, ((Below.refl _ _).alloc (Nat.le_refl _) _).alloc (by simp) _, rfl⟩
  case round =>
    obtain ⟨k, hk, rfl, hr, hf, hz, hbl, htk⟩ := hrel
    have HT : Hid (tk (ss.take k) f = false) := htk
    clear htk hrow
    by_cases hlt : k < n
    · obtain ⟨s, hse⟩ : ∃ s, s = ss.getD k ByteArray.empty := ⟨_, rfl⟩
      have c0 : wr.cell? ⟨g, k * 3, none⟩ = some (.string s) := by
        rw [hr.cell (i := k * 3) (by omega), hse]; simp [fdF, hlt]
      have c1 : wr.cell? ⟨g, k * 3 + 1, none⟩ = some .nilFunc := by
        rw [hr.cell (i := k * 3 + 1) (by omega)]; simp [fdF]
      have c2 : wr.cell? ⟨g, k * 3 + 2, none⟩ = some .nilFunc := by
        rw [hr.cell (i := k * 3 + 2) (by omega)]; simp [fdF]
      have HSE : Hid (s = ss.getD k ByteArray.empty) := hse
      clear hse
      have hfa : ∀ o : Obj, (wr.alloc o).cell? ⟨w.heap.size + 1, 0, none⟩ = some (.string f) := fun o => (World.cell?_alloc_past _ _ _ (by show w.heap.size + 1 < wr.heap.size; omega)).trans hf
      cases heq : s.toList == f.toList
      · have HE : Hid ((s.toList == f.toList) = false) := heq
        go_wp2
        go_roundw
        case rel => exact ⟨k + 1, by omega, by go_num, hr.alloc _, hfa _, by simp; omega, hbl.alloc (by omega) _, tk_step (by rw [HN.out]; exact hlt) HT.out (by rw [← HSE.out]; exact HE.out)⟩
        case measure => simp [intOf]; omega
      · have HE : Hid ((s.toList == f.toList) = true) := heq
        go_wp2
        go_ret
        exact ⟨by rw [tk_hit (by rw [HN.out]; exact hlt) (by rw [← HSE.out]; exact HE.out)]; rfl, hbl.alloc (by omega) _⟩
    · obtain rfl : k = n := by omega
      go_wp2
      go_ret
      exact ⟨by rw [← HT.out, List.take_of_length_le (by rw [HN.out]; exact Nat.le_refl _)]; rfl, hbl⟩

set_option maxHeartbeats 400000 in
theorem zztakes_some (b off n c : Nat) (ss : List ByteArray) (hn : ss.length = n) (hsmall : n ≤ 1048577) (f : ByteArray) (w : World) (hb : b < w.heap.size) (hs : Sat w b off ss) :
    Calls Trym.prog 9 #[.slice (some ⟨b, off, none⟩) n c, .string f] w (Says w (tk ss f)) := by
  have HN : Hid (ss.length = n) := hn
  have HS : Hid (Sat w b off ss) := hs
  clear hn hs
  have hmk := fun w => make_fields n hsmall w
  go_enter Trym.func9, Trym.ntmps9
  go_wp2
  go_loopw [6] (fun i wr => ∃ k : Nat, k ≤ n ∧ i = .int .i64 k ∧ wr.rowIs w.heap.size 31 (n * 3) (fdF ss k) ∧ Below w.heap.size w wr) (fun i _ => n - (intOf i).toNat)
  case atStart => exact ⟨0, Nat.zero_le _, rfl, fdF_zero _ _ _, (Below.refl _ _).alloc (Nat.le_refl _) _⟩
  case round =>
    obtain ⟨k, hk, rfl, hrow, hbl⟩ := hrel
    clear hmk
    by_cases hlt : k < n
    · obtain ⟨s, hse⟩ : ∃ s, s = ss.getD k ByteArray.empty := ⟨_, rfl⟩
      have hcell : wr.cell? ⟨b, off + k, none⟩ = some (.string s) := by rw [hse]; exact (HS.out.below hb hbl) k (by rw [HN.out]; exact hlt)
      obtain ⟨x0, c0⟩ : ∃ x, wr.cell? ⟨w.heap.size, k * 3, none⟩ = some x := ⟨_, hrow.cell (i := k * 3) (by omega)⟩
      obtain ⟨x1, c1⟩ : ∃ x, wr.cell? ⟨w.heap.size, k * 3 + 1, none⟩ = some x := ⟨_, hrow.cell (i := k * 3 + 1) (by omega)⟩
      obtain ⟨x2, c2⟩ : ∃ x, wr.cell? ⟨w.heap.size, k * 3 + 2, none⟩ = some x := ⟨_, hrow.cell (i := k * 3 + 2) (by omega)⟩
      have f0 := hrow.frozen (k * 3)
      have f1 := hrow.frozen (k * 3 + 1)
      have f2 := hrow.frozen (k * 3 + 2)
      have HSE : Hid (s = ss.getD k ByteArray.empty) := hse
      clear hse
      go_wp2
      go_roundw
      case rel => exact ⟨k + 1, by omega, by go_num, by rw [HSE.out]; exact fdF_step hrow, ((hbl.setCell (Nat.le_refl _) _).setCell (Nat.le_refl _) _).setCell (Nat.le_refl _) _⟩
      case measure => simp [intOf]; omega
    · obtain rfl : k = n := by omega
      go_wp2_with fail
      refine (takes_any w.heap.size k ss HN.out hsmall f _ hrow).mono ?_
      rintro e w1 ⟨rfl, hb1⟩
      go_wp2
      go_ret
      exact ⟨rfl, hbl.trans (hb1.mono hbl.size)⟩

set_option maxHeartbeats 400000 in
theorem zztakes_empty (ao : Option Addr) (c : Nat) (f : ByteArray) (w : World) :
    Calls Trym.prog 9 #[.slice ao 0 c, .string f] w (Says w (tk [] f)) := by
  have hmk : ∀ w : World, (Instr.makeSlice 27 (.int .i64 0) (.int .i64 0)).run Trym.prog w = .ok (.slice (some ⟨w.heap.size, 0, none⟩) 0 0) (w.alloc (.cells (madeCells #[.string ByteArray.empty, .nilFunc, .nilFunc] (0 * 3)) 31)) := fun w => make_fields 0 (by omega) w
  have hrow := fdF_zero w [] 0
  generalize madeCells #[.string ByteArray.empty, .nilFunc, .nilFunc] (0 * 3) = cs at hmk hrow
  go_enter Trym.func9, Trym.ntmps9
  go_wp2
  refine wp_loop_rounds 1 ?_
  rw [rounds_succ]
  go_wp2_with fail
  refine (takes_any w.heap.size 0 [] rfl (by omega) f _ hrow).mono ?_
  rintro e w1 ⟨rfl, hb1⟩
  go_wp2
  go_ret
  exact ⟨rfl, ((Below.refl _ _).alloc (Nat.le_refl _) _).trans (hb1.mono (by simp))⟩

theorem zztakes_any (ao : Option Addr) (c : Nat) (ss : List ByteArray) (f : ByteArray) (hsmall : ss.length ≤ 1048577) (w : World) (hs : View w ao ss) :
    Calls Trym.prog 9 #[.slice ao ss.length c, .string f] w (Says w (tk ss f)) := by
  rcases hs with rfl | ⟨b, off, rfl, hb, hs⟩
  · exact zztakes_empty _ _ _ _
  · exact zztakes_some _ _ _ _ ss rfl hsmall _ _ hb hs
end Go.Proofs.Qxb6606001aMods
