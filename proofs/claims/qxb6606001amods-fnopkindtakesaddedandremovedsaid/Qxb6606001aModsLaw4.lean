import Derived.Test.Qxb6606001aModsLaw4Parts
namespace Go.Proofs.Qxb6606001aMods
open Go.RowKit
set_option linter.unusedVariables false

theorem zztakes_at (ao : Option Addr) (n c : Nat) (ss : List ByteArray) (f : ByteArray) (r : Bool) (hn : ss.length = n) (hr : tk ss f = r) (hsmall : n ≤ 1048577) (w : World) (hs : View w ao ss) :
    Calls Trym.prog 9 #[.slice ao n c, .string f] w (Says w r) := by
  subst hn; subst hr
  exact zztakes_any _ _ _ _ hsmall _ hs

theorem clone_at (ao : Option Addr) (n c : Nat) (ss : List ByteArray) (hn : ss.length = n) (hsmall : n ≤ 1048576) (w : World) (hs : View w ao ss) :
    Calls Trym.prog 7 #[.slice ao n c] w fun e w' => ∃ ao' c', e = .returned (.slice ao' n c') ∧ View w' ao' ss ∧ Below w.heap.size w w' := by
  subst hn
  exact clone_any _ _ _ hsmall _ hs

theorem wo_keep {n k : Nat} {ss : List ByteArray} {f s : ByteArray} (hn : ss.length = n) (hk : k < n) (hs : s = ss.getD k ByteArray.empty) (he : (s.toList == f.toList) = false) : (wo (ss.take (k + 1)) f).length = (wo (ss.take k) f).length + 1 := by
  have hse : s = ss[k] := by rw [hs]; simp [List.getD, hn, hk]
  rw [List.take_succ_eq_append_getElem (by omega), ← hse]; unfold wo; rw [List.filter_append]; simp [he]
theorem wo_drop {n k : Nat} {ss : List ByteArray} {f s : ByteArray} (hn : ss.length = n) (hk : k < n) (hs : s = ss.getD k ByteArray.empty) (he : (s.toList == f.toList) = true) : (wo (ss.take (k + 1)) f).length = (wo (ss.take k) f).length := by
  have hse : s = ss[k] := by rw [hs]; simp [List.getD, hn, hk]
  rw [List.take_succ_eq_append_getElem (by omega), ← hse]; unfold wo; rw [List.filter_append]; simp [he]

theorem law4_views {W wr w1 : World} {b' off' n : Nat} {ss : List ByteArray} {f : ByteArray} (hn : ss.length = n) (hb' : b' < W.heap.size) (hs : Sat W b' off' ss) (hI : LInv W W.heap.size n ss f n wr)
    (hown : w1.ownsRow W.heap.size 9 1 (.slice (some ⟨W.heap.size, 0, none⟩) (n + 1) (n + 1)) (n + 1) ((ss.take n).map Value.string ++ [.string f])) (hgrow : (wr.alloc (.cells #[.string f] 9)).grownBy w1 (some W.heap.size)) :
    View w1 (some ⟨b', off', none⟩) ss ∧ View w1 (some ⟨W.heap.size, 0, none⟩) (ss ++ [f]) ∧ View w1 (some ⟨W.heap.size + 1, 0, none⟩) (wo ss f) ∧ View w1 (some ⟨W.heap.size + 1 + 1, 0, none⟩) ss.reverse ∧ Below W.heap.size W w1 := by
  have hsz := hI.size
  have hsz1 : W.heap.size + 3 ≤ w1.heap.size := by have := hgrow.size; simp at this; omega
  have ht : ss.take n = ss := List.take_of_length_le (by omega)
  have hbel : Below W.heap.size W w1 := (hI.bel.alloc (by omega) _).grown hgrow (by simp; omega) (fun i hi => by cases hi; exact Nat.le_refl _)
  refine ⟨.inr ⟨_, _, rfl, by omega, hs.below hb' hbel⟩, .inr ⟨_, _, rfl, by omega, ?_⟩, .inr ⟨_, _, rfl, by omega, ?_⟩, .inr ⟨_, _, rfl, by omega, ?_⟩, hbel⟩
  · rw [ht] at hown
    exact own_sat (n := n + 1) (by simp [hn]) (by simpa using hown)
  · have h := (hI.own6.alloc (.cells #[.string f] 9)).kept hgrow (.inr (by simp [Value.ownBlock]))
    rw [ht] at h
    exact own_sat rfl h
  · exact rvF_sat hn (rowIs_grown (hI.row7.alloc _) hgrow (by simp; omega))

theorem law4_cmp {n : Nat} {ss : List ByteArray} {f : ByteArray} (hn : ss.length = n) : decide ((wo (ss.take n) f).length < n) = tk ss f := by
  have ht : ss.take n = ss := List.take_of_length_le (by omega)
  rw [ht]
  cases h : tk ss f
  · have := wo_eq h; exact decide_eq_false (by omega)
  · have := wo_lt h; exact decide_eq_true (by omega)

theorem keep1 {wr w1 : World} {b' o' g j : Nat} {s : ByteArray} {x : Value} (hb1 : b' ≠ g) (hcell : wr.cell? ⟨b', o', none⟩ = some (.string s)) (c7 : wr.cell? ⟨g + 1 + 1, j, none⟩ = some x) (f7 : wr.frozen? ⟨g + 1 + 1, j, none⟩ = false)
    {o : Obj} (hg : (wr.alloc o).grownBy w1 (some g)) : w1.cell? ⟨b', o', none⟩ = some (.string s) ∧ w1.cell? ⟨g + 1 + 1, j, none⟩ = some x ∧ w1.frozen? ⟨g + 1 + 1, j, none⟩ = false := by
  have l1 := World.block_lt_of_cell? _ _ hcell
  have l2 := World.block_lt_of_cell? _ _ c7
  refine ⟨hg.cell ((World.cell?_alloc_past _ _ _ l1).trans hcell) (by simpa using hb1), hg.cell ((World.cell?_alloc_past _ _ _ l2).trans c7) (by simp; omega), ?_⟩
  rw [World.frozen?_of_block (w := wr.alloc o) (hg.block (g + 1 + 1) (by simp at l2 ⊢; omega) (by simp; omega))]
  exact (World.frozen?_alloc_past _ _ _ l2).trans f7

theorem keep2 {wr w1 w2 : World} {b' o' g j : Nat} {s : ByteArray} {x : Value} (hb1 : b' < g) (hcell : wr.cell? ⟨b', o', none⟩ = some (.string s)) (c7 : wr.cell? ⟨g + 1 + 1, j, none⟩ = some x) (f7 : wr.frozen? ⟨g + 1 + 1, j, none⟩ = false)
    {o o2 : Obj} (hg : (wr.alloc o).grownBy w1 (some g)) (hg2 : (w1.alloc o2).grownBy w2 (some (g + 1))) : w2.cell? ⟨b', o', none⟩ = some (.string s) ∧ w2.cell? ⟨g + 1 + 1, j, none⟩ = some x ∧ w2.frozen? ⟨g + 1 + 1, j, none⟩ = false := by
  obtain ⟨a1, a2, a3⟩ := keep1 (by omega) hcell c7 f7 hg
  have l1 := World.block_lt_of_cell? _ _ a1
  have l2 := World.block_lt_of_cell? _ _ a2
  refine ⟨hg2.cell ((World.cell?_alloc_past _ _ _ l1).trans a1) (by simp; omega), hg2.cell ((World.cell?_alloc_past _ _ _ l2).trans a2) (by simp), ?_⟩
  rw [World.frozen?_of_block (w := w1.alloc o2) (hg2.block (g + 1 + 1) (by simp at l2 ⊢; omega) (by simp))]
  exact (World.frozen?_alloc_past _ _ _ l2).trans a3

/-- The tests ahead of the clone: where one says no, the law answers true at once. -/
theorem law4_some (b off n c : Nat) (ss : List ByteArray) (hn : ss.length = n) (h0 : 0 < n) (f : ByteArray) (hf : f.size ≤ maxLen) (w : World) (hb : b < w.heap.size) (hs : Sat w b off ss) :
    Calls Trym.prog 4 #[.slice (some ⟨b, off, none⟩) n c, .string f] w (Says w true) := by
  have HN : Hid (ss.length = n) := hn
  have HV : Hid (View w (some ⟨b, off, none⟩) ss) := .inr ⟨b, off, rfl, hb, hs⟩
  clear hn hs
  unfold maxLen at hf
  go_enter Trym.func4, Trym.ntmps4
  go_wp2_with fail
  refine (show Calls Trym.prog 10 #[.slice (some ⟨b, off, none⟩) n c, .string f] w (AnyBool w) from by have := bytes10_any (some ⟨b, off, none⟩) c ss f (by unfold maxLen; omega) w HV.out; rwa [HN.out] at this).mono ?_
  rintro e w1 ⟨r, rfl, rfl⟩
  cases r
  · go_wp2
    go_ret
    exact ⟨rfl, Below.refl _ _⟩
  by_cases hfs : 1048576 < f.size
  · go_wp2
    go_ret
    exact ⟨rfl, Below.refl _ _⟩
  by_cases hns : 65536 < n
  · go_wp2
    go_ret
    exact ⟨rfl, Below.refl _ _⟩
  have hd1 : decide ((1048576 : Int) < (f.size : Int)) = false := decide_eq_false (by omega)
  have hd2 : decide ((65536 : Int) < (n : Int)) = false := decide_eq_false (by omega)
  go_wp2_with fail
  refine (show Calls Trym.prog 6 #[.slice (some ⟨b, off, none⟩) n c, .int .i64 (f.size : Int)] w (AnyInt w) from by have := total_any (some ⟨b, off, none⟩) c ss (f.size : Int) (by rw [HN.out]; omega) w HV.out; rwa [HN.out] at this).mono ?_
  rintro e w1 ⟨z, rfl, rfl⟩
  by_cases hz : 1048576 < z
  · go_wp2
    go_ret
    exact ⟨rfl, Below.refl _ _⟩
  have hd3 : decide ((1048576 : Int) < z) = false := decide_eq_false hz
  go_wp2_with fail
  refine (clone_at (some ⟨b, off, none⟩) n c ss HN.out (by omega) w HV.out).mono ?_
  rintro e W ⟨ao, c', rfl, hv, hbW⟩
  obtain ⟨b', off', hao, hb', hs'⟩ : ∃ b' off', ao = some ⟨b', off', none⟩ ∧ b' < W.heap.size ∧ Sat W b' off' ss := by
    rcases hv with h | h
    · have := HN.out; rw [h] at this; simp at this; omega
    · exact h
  subst hao
  clear HV
  have HS : Hid (Sat W b' off' ss) := hs'
  clear hs'
  obtain ⟨cs1, hz1, hm1⟩ := make_strs1 n (by omega)
  obtain ⟨cs2, hz2, hm2⟩ := make_strs0 n (by omega)
  obtain ⟨cs3, hz3, hzz3, hm3⟩ := make_strs n n (Nat.le_refl _) (by omega)
  have HI : Hid (LInv W W.heap.size n ss f 0 (((W.alloc (.cells cs1 9)).alloc (.cells cs2 9)).alloc (.cells cs3 9))) := linv_start W n (by omega) ss f cs1 cs2 cs3 hz1 hz2 hz3 hzz3
  clear hz1 hz2 hz3 hzz3
  go_wp2
  go_loopw [5, 6, 8] (fun v5 v6 i wr => ∃ k : Nat, k ≤ n ∧ i = .int .i64 k ∧ v5 = .slice (some ⟨W.heap.size, 0, none⟩) k (n + 1) ∧ v6 = .slice (some ⟨W.heap.size + 1, 0, none⟩) (wo (ss.take k) f).length n ∧ LInv W W.heap.size n ss f k wr) (fun _ _ i _ => n - (intOf i).toNat)
  case atStart => exact ⟨0, Nat.zero_le _, rfl, rfl, rfl, HI.out⟩
  case round =>
    obtain ⟨k, hk, rfl, rfl, rfl, hI⟩ := hrel
    clear hm1 hm2 hm3 HI
    have hml : (wo (ss.take k) f).length ≤ k := by have := wo_len (ss.take k) f; rw [List.length_take] at this; omega
    have hgz := hI.size
    by_cases hlt : k < n
    · obtain ⟨s, hse⟩ : ∃ s, s = ss.getD k ByteArray.empty := ⟨_, rfl⟩
      have hcell : wr.cell? ⟨b', off' + k, none⟩ = some (.string s) := by rw [hse]; exact (HS.out.below hb' hI.bel) k (by rw [HN.out]; exact hlt)
      have HSE : Hid (s = ss.getD k ByteArray.empty) := hse
      clear hse
      obtain ⟨i0, hi, hzr, hs1, hbt⟩ := info_parts Trym.info9
      obtain ⟨x7, c7⟩ : ∃ x, wr.cell? ⟨W.heap.size + 1 + 1, n - 1 - k, none⟩ = some x := ⟨_, hI.row7.cell (i := n - 1 - k) (by omega)⟩
      have f7 : wr.frozen? ⟨W.heap.size + 1 + 1, n - 1 - k, none⟩ = false := hI.row7.frozen _
      have hb1 : b' < W.heap.size := hb'
      cases heq : s.toList == f.toList
      · have HE : Hid ((s.toList == f.toList) = false) := heq
        go_wp2_with (first
          | (at_builtin; refine wpList_append_fits _ rfl (.tmp 45) (.tmp 50) 22 rfl W.heap.size 9 i0 1 Trym.underlying22 hi hs1 W.heap.size k (n + 1) _ rfl (hI.own5.alloc _) ⟨wr.heap.size, 0, none⟩ 1 1 [.string s] rfl rfl (cell_one_new _ _ _) (by simp [Value.oneCell']) (by omega) ?_; intro w1 hown1 hgrow1; have hc1 : w1.cell? ⟨b', off' + k, none⟩ = some (.string s) := hgrow1.cell ((World.cell?_alloc_past _ _ _ (World.block_lt_of_cell? _ _ hcell)).trans hcell) (by simp; omega))
          | (at_builtin; refine wpList_append_fits _ rfl (.tmp 58) (.tmp 63) 22 rfl W.heap.size 9 i0 1 Trym.underlying22 hi hs1 (W.heap.size + 1) _ n _ rfl (((hI.own6.alloc _).kept hgrow1 (by simp [Value.ownBlock])).alloc _) ⟨w1.heap.size, 0, none⟩ 1 1 [.string s] rfl rfl (cell_one_new _ _ _) (by simp [Value.oneCell']) (by omega) ?_; intro w2 hown2 hgrow2; obtain ⟨hc2, c72, f72⟩ := keep2 hb1 hcell c7 f7 hgrow1 hgrow2))
        have R := linv_keep HN.out hlt HSE.out HE.out hI hown1 hgrow1 hown2 hgrow2
        go_roundw
        case rel => exact ⟨k + 1, by omega, by go_num, by go_num, by rw [wo_keep HN.out hlt HSE.out HE.out], R⟩
        case measure => simp [intOf]; omega
      · have HE : Hid ((s.toList == f.toList) = true) := heq
        go_wp2_with (at_builtin; refine wpList_append_fits _ rfl (.tmp 45) (.tmp 50) 22 rfl W.heap.size 9 i0 1 Trym.underlying22 hi hs1 W.heap.size k (n + 1) _ rfl (hI.own5.alloc _) ⟨wr.heap.size, 0, none⟩ 1 1 [.string s] rfl rfl (cell_one_new _ _ _) (by simp [Value.oneCell']) (by omega) ?_; intro w1 hown1 hgrow1; obtain ⟨hc1, c71, f71⟩ := keep1 (Nat.ne_of_lt hb1) hcell c7 f7 hgrow1)
        have R := linv_drop HN.out hlt HSE.out HE.out hI hown1 hgrow1
        go_roundw
        case rel => exact ⟨k + 1, by omega, by go_num, by go_num, by rw [wo_drop HN.out hlt HSE.out HE.out], R⟩
        case measure => simp [intOf]; omega
    · obtain rfl : k = n := by omega
      obtain ⟨i0, hi, hzr, hs1, hbt⟩ := info_parts Trym.info9
      have hcmp := law4_cmp (f := f) HN.out
      have hlw : Hid ((wo ss f).length = (wo (ss.take k) f).length) := by
        show (wo ss f).length = _
        rw [List.take_of_length_le (by rw [HN.out]; exact Nat.le_refl _)]
      obtain ⟨r, hr⟩ : ∃ r, r = tk ss f := ⟨_, rfl⟩
      rw [← hr] at hcmp
      have HR : Hid (r = tk ss f) := hr
      clear hr
      go_wp2_with (at_builtin; refine wpList_append_fits _ rfl (.tmp 76) (.tmp 78) 22 rfl W.heap.size 9 i0 1 Trym.underlying22 hi hs1 W.heap.size k (k + 1) _ rfl (hI.own5.alloc _) ⟨wr.heap.size, 0, none⟩ 1 1 [.string f] rfl rfl (cell_one_new _ _ _) (by simp [Value.oneCell']) (by omega) ?_; intro w1 hown1 hgrow1)
      obtain ⟨v1, v2, v3, v4, hbel⟩ := law4_views HN.out hb' HS.out hI hown1 hgrow1
      clear hown1 hgrow1 hI
      refine (zztakes_at _ k _ ss f r HN.out HR.out.symm (by omega) w1 v1).mono ?_
      rintro e w2 ⟨rfl, hb2⟩
      go_wp2_with fail
      refine (zztakes_at _ (k + 1) _ (ss ++ [f]) f true (by simp [HN.out]) (tk_with ss f) (by omega) w2 (v2.below hb2)).mono ?_
      rintro e w3 ⟨rfl, hb3⟩
      go_wp2_with fail
      refine (zztakes_at _ _ _ (wo ss f) f false hlw.out (tk_wo ss f) (by omega) w3 ((v3.below hb2).below hb3)).mono ?_
      rintro e w4 ⟨rfl, hb4⟩
      go_wp2_with fail
      refine (zztakes_at _ k _ ss.reverse f r (by simp [HN.out]) ((tk_rev ss f).trans HR.out.symm) (by omega) w4 (((v4.below hb2).below hb3).below hb4)).mono ?_
      rintro e w5 ⟨rfl, hb5⟩
      cases r
      all_goals
        go_wp2
        go_ret
        refine ⟨rfl, ?_⟩
        exact hbW.trans ((hbel.mono hbW.size).trans ((hb2.trans ((hb3.mono hb2.size).trans ((hb4.mono (Nat.le_trans hb2.size hb3.size)).trans (hb5.mono (Nat.le_trans hb2.size (Nat.le_trans hb3.size hb4.size)))))).mono (Nat.le_trans hbW.size hbel.size)))

theorem bytes10_at (ao : Option Addr) (n c : Nat) (ss : List ByteArray) (hn : ss.length = n) (f : ByteArray) (hf : f.size ≤ maxLen) (w : World) (hs : View w ao ss) : Calls Trym.prog 10 #[.slice ao n c, .string f] w (AnyBool w) := by
  subst hn
  exact bytes10_any _ _ _ _ hf _ hs

theorem tk_nil (f : ByteArray) : tk [] f = false := rfl

set_option maxHeartbeats 1000000 in
/-- No name. -/
theorem law4_empty (ao : Option Addr) (c : Nat) (f : ByteArray) (hf : f.size ≤ maxLen) (w : World) :
    Calls Trym.prog 4 #[.slice ao 0 c, .string f] w (Says w true) := by
  go_enter Trym.func4, Trym.ntmps4
  go_wp2_with fail
  refine (bytes10_empty ao c f hf w).mono ?_
  rintro e w1 ⟨r, rfl, rfl⟩
  cases r
  · go_wp2
    go_ret
    exact ⟨rfl, Below.refl _ _⟩
  by_cases hfs : 1048576 < f.size
  · go_wp2
    go_ret
    exact ⟨rfl, Below.refl _ _⟩
  have hd1 : decide ((1048576 : Int) < (f.size : Int)) = false := decide_eq_false (by omega)
  go_wp2_with fail
  refine (total_empty ao c (f.size : Int) w).mono ?_
  rintro e w1 ⟨z, rfl, rfl⟩
  by_cases hz : 1048576 < z
  · go_wp2
    go_ret
    exact ⟨rfl, Below.refl _ _⟩
  have hd3 : decide ((1048576 : Int) < z) = false := decide_eq_false hz
  go_wp2_with fail
  refine (clone_at ao 0 c [] rfl (by omega) w (.inl rfl)).mono ?_
  rintro e W ⟨ao', c', rfl, hv, hbW⟩
  clear hv
  obtain ⟨cs1, hz1, hm1⟩ := make_strs1 0 (by omega)
  obtain ⟨cs2, hz2, hm2⟩ := make_strs0 0 (by omega)
  have hI := linv_start W 0 (by omega) [] f cs1 cs2 cs2 hz1 hz2 hz2 (fun i hi => by omega)
  clear hz1 hz2
  have hm1' : ∀ w : World, (Instr.makeSlice 22 (.int .i64 0) (.int .i64 1)).run Trym.prog w = .ok (.slice (some ⟨w.heap.size, 0, none⟩) 0 1) (w.alloc (.cells cs1 9)) := hm1
  have hm2' : ∀ w : World, (Instr.makeSlice 22 (.int .i64 0) (.int .i64 0)).run Trym.prog w = .ok (.slice (some ⟨w.heap.size, 0, none⟩) 0 0) (w.alloc (.cells cs2 9)) := hm2
  clear hm1 hm2
  obtain ⟨i0, hi, hzr, hs1, hbt⟩ := info_parts Trym.info9
  have HI : Hid _ := hI
  clear hI
  go_wp2
  generalize ((W.alloc (.cells cs1 9)).alloc (.cells cs2 9)).alloc (.cells cs2 9) = wr at HI ⊢
  clear hm1' hm2'
  have hgz := HI.out.size
  refine wp_loop_rounds 1 ?_
  rw [rounds_succ]
  go_wp2_with (at_builtin; refine wpList_append_fits _ rfl (.tmp 76) (.tmp 78) 22 rfl W.heap.size 9 i0 1 Trym.underlying22 hi hs1 W.heap.size 0 1 _ rfl (HI.out.own5.alloc _) ⟨wr.heap.size, 0, none⟩ 1 1 [.string f] rfl rfl (cell_one_new _ _ _) (by simp [Value.oneCell']) (by omega) ?_; intro w1 hown1 hgrow1)
  have hbel : Below W.heap.size W w1 := (HI.out.bel.alloc (by omega) _).grown hgrow1 (by simp; omega) (fun i hi => by cases hi; exact Nat.le_refl _)
  have v2 : View w1 (some ⟨W.heap.size, 0, none⟩) [f] := .inr ⟨_, _, rfl, by have := hgrow1.size; simp at this; omega, own_sat (n := 1) rfl (by simpa using hown1)⟩
  clear hown1 hgrow1
  refine (zztakes_at _ 0 _ [] f false rfl rfl (by omega) w1 (.inl rfl)).mono ?_
  rintro e w2 ⟨rfl, hb2⟩
  go_wp2_with fail
  refine (zztakes_at _ 1 _ [f] f true rfl (tk_with [] f) (by omega) w2 (v2.below hb2)).mono ?_
  rintro e w3 ⟨rfl, hb3⟩
  go_wp2_with fail
  refine (zztakes_at _ 0 _ [] f false rfl rfl (by omega) w3 (.inl rfl)).mono ?_
  rintro e w4 ⟨rfl, hb4⟩
  go_wp2_with fail
  refine (zztakes_at _ 0 _ [] f false rfl rfl (by omega) w4 (.inl rfl)).mono ?_
  rintro e w5 ⟨rfl, hb5⟩
  go_wp2
  go_ret
  refine ⟨rfl, ?_⟩
  exact hbW.trans ((hbel.mono hbW.size).trans ((hb2.trans ((hb3.mono hb2.size).trans ((hb4.mono (Nat.le_trans hb2.size hb3.size)).trans (hb5.mono (Nat.le_trans hb2.size (Nat.le_trans hb3.size hb4.size)))))).mono (Nat.le_trans hbW.size hbel.size)))

theorem law4_any (ao : Option Addr) (n c : Nat) (ss : List ByteArray) (hn : ss.length = n) (f : ByteArray) (hf : f.size ≤ maxLen) (w : World) (hs : View w ao ss) :
    Calls Trym.prog 4 #[.slice ao n c, .string f] w (Says w true) := by
  subst hn
  rcases hs with rfl | ⟨b, off, rfl, hb, hs⟩
  · exact law4_empty _ _ _ hf _
  · by_cases h0 : 0 < ss.length
    · exact law4_some _ _ _ _ ss rfl h0 _ hf _ hb hs
    · obtain rfl : ss = [] := List.eq_nil_of_length_eq_zero (by omega)
      exact law4_empty _ _ _ hf _

end Go.Proofs.Qxb6606001aMods
