import Derived.Test.Qxb6606001aModsLaw3Parts
namespace Go.Proofs.Qxb6606001aMods
open Go.RowKit
set_option linter.unusedVariables false

set_option maxHeartbeats 2000000 in
theorem law3_some (b off n c : Nat) (ss : List ByteArray) (hn : ss.length = n) (h0 : 0 < n) (f : ByteArray) (hf : f.size ≤ maxLen) (w : World) (hb : b < w.heap.size) (hs : Sat w b off ss) :
    Calls Trym.prog 3 #[.slice (some ⟨b, off, none⟩) n c, .string f] w (Says w true) := by
  have HN : Hid (ss.length = n) := hn
  have HV : Hid (View w (some ⟨b, off, none⟩) ss) := .inr ⟨b, off, rfl, hb, hs⟩
  clear hn hs
  have hf' := hf
  unfold maxLen at hf
  go_enter Trym.func3, Trym.ntmps3
  go_wp2_with fail
  refine (bytes5_at _ n c ss HN.out f hf' w HV.out).mono ?_
  rintro e w1 ⟨r, rfl, rfl⟩
  cases r
  · go_wp2
    go_ret
    exact ⟨rfl, Below.refl _ _⟩
  by_cases hfs : 1048576 < f.size
  · go_wp2
    go_ret
    exact ⟨rfl, Below.refl _ _⟩
  by_cases hns : 4096 < n
  · go_wp2
    go_ret
    exact ⟨rfl, Below.refl _ _⟩
  have hd1 : decide ((1048576 : Int) < (f.size : Int)) = false := decide_eq_false (by omega)
  have hd2 : decide ((4096 : Int) < (n : Int)) = false := decide_eq_false (by omega)
  go_wp2_with fail
  refine (total_at _ n c ss HN.out (f.size : Int) (by omega) w HV.out).mono ?_
  rintro e w1 ⟨z, rfl, rfl⟩
  by_cases hz : 1048576 < z
  · go_wp2
    go_ret
    exact ⟨rfl, Below.refl _ _⟩
  have hd3 : decide ((1048576 : Int) < z) = false := decide_eq_false hz
  go_wp2_with fail
  refine (clone_to (some ⟨b, off, none⟩) n c ss HN.out (by omega) w HV.out).mono ?_
  rintro e W ⟨ao, c', rfl, hv, hbW⟩
  obtain ⟨b', off', hao, hb', hs'⟩ : ∃ b' off', ao = some ⟨b', off', none⟩ ∧ b' < W.heap.size ∧ Sat W b' off' ss := by
    rcases hv with h | h
    · have := HN.out; rw [h] at this; simp at this; omega
    · exact h
  subst hao
  have HW : Hid (View W (some ⟨b', off', none⟩) ss) := hv
  clear HV hv
  have HS : Hid (Sat W b' off' ss) := hs'
  clear hs'
  have hmk := fun w => run_make_row' (P := Trym.prog) 22 9 (.string ByteArray.empty) 16 Trym.underlying22 Trym.info9 rfl .i64 .i64 n (by omega) (by omega) w
  go_wp2
  go_loopw [6] (fun i wr => ∃ k : Nat, k ≤ n ∧ i = .int .i64 k ∧ wr.rowIs W.heap.size 9 n (clF ss k) ∧ Below W.heap.size W wr) (fun i _ => n - (intOf i).toNat)
  case atStart => exact ⟨0, Nat.zero_le _, rfl, by rw [← clF_zero]; exact World.rowIs_made _ _ _ _, (Below.refl _ _).alloc (Nat.le_refl _) _⟩
  case round =>
    obtain ⟨k, hk, rfl, hrow, hbl⟩ := hrel
    clear hmk
    by_cases hlt : k < n
    · obtain ⟨s, hse⟩ : ∃ s, s = ss.getD k ByteArray.empty := ⟨_, rfl⟩
      have hcell : wr.cell? ⟨b', off' + k, none⟩ = some (.string s) := by rw [hse]; exact (HS.out.below hb' hbl) k (by rw [HN.out]; exact hlt)
      have hto := hrow.cell hlt
      have hfr := hrow.frozen k
      have HSE : Hid (s = ss.getD k ByteArray.empty) := hse
      clear hse
      go_wp2
      go_roundw
      case rel => exact ⟨k + 1, by omega, by go_num, by rw [HSE.out]; exact clF_step hrow, hbl.setCell (Nat.le_refl _) _⟩
      case measure => simp [intOf]; omega
    · obtain rfl : k = n := by omega
      go_wp2_with fail
      refine (sort_any W.heap.size k (by omega) (nth ss) wr (clF_nth hrow)).mono ?_
      rintro e w2 ⟨rfl, F, hrow2, ho, hsame, hb2⟩
      have HO : Hid (Ordered F k) := ho
      have HSM : Hid (SameOnes F (nth ss) k) := hsame
      have HW2 : Hid (View w2 (some ⟨b', off', none⟩) ss) := HW.out.below (hbl.trans hb2)
      clear hrow ho hsame HW
      go_wp2
      go_loop [7, 8, 9] (fun vlo vhi vm => ∃ lo hi : Nat, lo ≤ hi ∧ hi ≤ k ∧ vlo = .int .i64 lo ∧ vhi = .int .i64 hi ∧ SLo F f lo ∧ SHi F f k hi) (fun vlo vhi _ => (intOf vhi).toNat - (intOf vlo).toNat)
      case atStart => exact ⟨0, k, Nat.zero_le _, Nat.le_refl _, rfl, rfl, fun p hp => by omega, fun p h1 h2 => by omega⟩
      case round =>
        obtain ⟨lo, hi, hlh, hhk, rfl, rfl, hlo, hhi⟩ := hrel
        have HLO : Hid (SLo F f lo) := hlo
        have HHI : Hid (SHi F f k hi) := hhi
        clear hlo hhi
        by_cases hlt2 : lo < hi
        · obtain ⟨y, hy⟩ : ∃ y, y = F (lo + (hi - lo) / 2) := ⟨_, rfl⟩
          have hcy : w2.cell? ⟨W.heap.size, lo + (hi - lo) / 2, none⟩ = some (.string y) := by rw [hy]; exact hrow2.cell (by omega)
          have HY : Hid (y = F (lo + (hi - lo) / 2)) := hy
          clear hy
          cases hl : Op.bytesLess y.toList f.toList
          · have G : Hid (SHi F f k (lo + (hi - lo) / 2)) := search_hi HO.out (by rw [← HY.out]; exact hl)
            go_wp2
            go_round
            case rel => exact ⟨lo, lo + (hi - lo) / 2, by omega, by omega, rfl, by go_num, HLO.out, G.out⟩
            case measure => simp only [intOf]; omega
          · have G : Hid (SLo F f (lo + (hi - lo) / 2 + 1)) := search_lo HO.out (by omega) (by rw [← HY.out]; exact hl)
            go_wp2
            go_round
            case rel => exact ⟨lo + (hi - lo) / 2 + 1, hi, by omega, by omega, by go_num, rfl, G.out, HHI.out⟩
            case measure => simp only [intOf]; omega
        · obtain rfl : lo = hi := by omega
          by_cases hlk : lo < k
          · obtain ⟨y, hy⟩ : ∃ y, y = F lo := ⟨_, rfl⟩
            have hcy : w2.cell? ⟨W.heap.size, lo, none⟩ = some (.string y) := by rw [hy]; exact hrow2.cell (by omega)
            have HY : Hid (y = F lo) := hy
            clear hy
            cases he : (y.toList == f.toList)
            · have T : Hid (tk ss f = false) := found_no HN.out HO.out HSM.out HLO.out HHI.out (fun _ => by rw [← HY.out]; exact he)
              go_wp2_with fail
              refine (zztakes_to _ k _ ss f false HN.out T.out (by omega) w2 HW2.out).mono ?_
              rintro e w3 ⟨rfl, hb3⟩
              go_wp2
              go_ret
              exact ⟨rfl, hbW.trans (((hbl.trans hb2).mono hbW.size).trans (hb3.mono (Nat.le_trans hbW.size (Nat.le_trans hbl.size hb2.size))))⟩
            · have T : Hid (tk ss f = true) := found_yes HN.out HSM.out hlk (by rw [← HY.out]; exact he)
              go_wp2_with fail
              refine (zztakes_to _ k _ ss f true HN.out T.out (by omega) w2 HW2.out).mono ?_
              rintro e w3 ⟨rfl, hb3⟩
              go_wp2
              go_ret
              exact ⟨rfl, hbW.trans (((hbl.trans hb2).mono hbW.size).trans (hb3.mono (Nat.le_trans hbW.size (Nat.le_trans hbl.size hb2.size))))⟩
          · have T : Hid (tk ss f = false) := found_no HN.out HO.out HSM.out HLO.out HHI.out (fun h => absurd h hlk)
            go_wp2_with fail
            refine (zztakes_to _ k _ ss f false HN.out T.out (by omega) w2 HW2.out).mono ?_
            rintro e w3 ⟨rfl, hb3⟩
            go_wp2
            go_ret
            exact ⟨rfl, hbW.trans (((hbl.trans hb2).mono hbW.size).trans (hb3.mono (Nat.le_trans hbW.size (Nat.le_trans hbl.size hb2.size))))⟩

set_option maxHeartbeats 1000000 in
theorem law3_empty (ao : Option Addr) (c : Nat) (f : ByteArray) (hf : f.size ≤ maxLen) (w : World) :
    Calls Trym.prog 3 #[.slice ao 0 c, .string f] w (Says w true) := by
  go_enter Trym.func3, Trym.ntmps3
  go_wp2_with fail
  refine (bytes5_empty ao c f hf w).mono ?_
  rintro e w1 ⟨r, rfl, rfl⟩
  cases r
  · go_wp2
    go_ret
    exact ⟨rfl, Below.refl _ _⟩
  by_cases hfs : 1048576 < f.size
  · go_wp2
    go_ret
    exact ⟨rfl, Below.refl _ _⟩
  have hd1 : decide ((1048576 : Int) < (f.size : Int)) = false := decide_eq_false (by omega)
  go_wp2_with fail
  refine (total_empty ao c (f.size : Int) w).mono ?_
  rintro e w1 ⟨z, rfl, rfl⟩
  by_cases hz : 1048576 < z
  · go_wp2
    go_ret
    exact ⟨rfl, Below.refl _ _⟩
  have hd3 : decide ((1048576 : Int) < z) = false := decide_eq_false hz
  go_wp2_with fail
  refine (clone_to ao 0 c [] rfl (by omega) w (.inl rfl)).mono ?_
  rintro e W ⟨ao', c', rfl, hv, hbW⟩
  clear hv
  have hmk : ∀ w : World, (Instr.makeSlice 22 (.int .i64 0) (.int .i64 0)).run Trym.prog w = .ok (.slice (some ⟨w.heap.size, 0, none⟩) 0 0) (w.alloc (.cells (madeCells #[.string ByteArray.empty] 0) 9)) :=
    fun w => run_make_row' (P := Trym.prog) 22 9 (.string ByteArray.empty) 16 Trym.underlying22 Trym.info9 rfl .i64 .i64 0 (by omega) (by omega) w
  have HR : Hid _ := nth_zero W
  have HB : Hid (Below W.heap.size W (W.alloc (.cells (madeCells #[.string ByteArray.empty] 0) 9))) := (Below.refl _ _).alloc (Nat.le_refl _) _
  generalize madeCells #[.string ByteArray.empty] 0 = cs at hmk HR HB
  go_wp2
  generalize W.alloc (.cells cs 9) = wr at HR HB ⊢
  clear hmk
  refine wp_loop_rounds 1 ?_
  rw [rounds_succ]
  go_wp2_with fail
  refine (sort_any W.heap.size 0 (by omega) (nth []) wr HR.out).mono ?_
  rintro e w2 ⟨rfl, F, hrow2, ho, hsame, hb2⟩
  clear hrow2 ho hsame
  go_wp2
  refine wp_loop_rounds 1 ?_
  rw [rounds_succ]
  go_wp2_with fail
  refine (zztakes_to _ 0 _ [] f false rfl rfl (by omega) w2 (.inl rfl)).mono ?_
  rintro e w3 ⟨rfl, hb3⟩
  go_wp2
  go_ret
  exact ⟨rfl, hbW.trans (((HB.out.trans hb2).mono hbW.size).trans (hb3.mono (Nat.le_trans hbW.size (Nat.le_trans HB.out.size hb2.size))))⟩

theorem law3_any (ao : Option Addr) (n c : Nat) (ss : List ByteArray) (hn : ss.length = n) (f : ByteArray) (hf : f.size ≤ maxLen) (w : World) (hs : View w ao ss) :
    Calls Trym.prog 3 #[.slice ao n c, .string f] w (Says w true) := by
  subst hn
  rcases hs with rfl | ⟨b, off, rfl, hb, hs⟩
  · exact law3_empty _ _ _ hf _
  · by_cases h0 : 0 < ss.length
    · exact law3_some _ _ _ _ ss rfl h0 _ hf _ hb hs
    · obtain rfl : ss = [] := List.eq_nil_of_length_eq_zero (by omega)
      exact law3_empty _ _ _ hf _
end Go.Proofs.Qxb6606001aMods
