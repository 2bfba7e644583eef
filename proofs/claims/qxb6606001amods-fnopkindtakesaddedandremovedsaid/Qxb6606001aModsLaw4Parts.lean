import Derived.Test.Qxb6606001aModsTakes
import Derived.Test.Qxb6606001aModsGuards
import Derived.Maps.AppendAt
namespace Go.Proofs.Qxb6606001aMods
open Go.RowKit
set_option linter.unusedVariables false

/-! ### make -/
theorem make_strs (l n : Nat) (hl : l ≤ n) (hb : n ≤ 1048577) : ∃ cs : Array Value, cs.size = n ∧ (∀ i, i < n → cs[i]? = some (.string ByteArray.empty)) ∧
    ∀ w : World, (Instr.makeSlice 22 (.int .i64 (l : Int)) (.int .i64 (n : Int))).run Trym.prog w = .ok (.slice (some ⟨w.heap.size, 0, none⟩) l n) (w.alloc (.cells cs 9)) := by
  obtain ⟨i, hi, hz, hs, hbt⟩ := info_parts Trym.info9
  refine ⟨madeCells #[.string ByteArray.empty] n, size_madeCells _ _, fun j hj => by simp [madeCells, hj, Nat.mod_one], fun w => ?_⟩
  have hr := run_make (P := Trym.prog) w 22 9 i _ Trym.underlying22 hi hz .i64 .i64 l n (by omega) (by omega) (by rw [hbt]; omega) (by omega)
  simp only [Int.toNat_natCast, hs, Nat.mul_one] at hr
  exact hr

theorem make_strs0 (n : Nat) (hb : n ≤ 1048577) : ∃ cs : Array Value, cs.size = n ∧
    ∀ w : World, (Instr.makeSlice 22 (.int .i64 0) (.int .i64 (n : Int))).run Trym.prog w = .ok (.slice (some ⟨w.heap.size, 0, none⟩) 0 n) (w.alloc (.cells cs 9)) := by
  obtain ⟨cs, h1, _, h3⟩ := make_strs 0 n (Nat.zero_le _) hb
  exact ⟨cs, h1, h3⟩

theorem make_strs1 (n : Nat) (hb : n ≤ 1048576) : ∃ cs : Array Value, cs.size = n + 1 ∧
    ∀ w : World, (Instr.makeSlice 22 (.int .i64 0) (.int .i64 ((n : Int) + 1))).run Trym.prog w = .ok (.slice (some ⟨w.heap.size, 0, none⟩) 0 (n + 1)) (w.alloc (.cells cs 9)) := by
  obtain ⟨cs, h1, _, h3⟩ := make_strs 0 (n + 1) (Nat.zero_le _) (by omega)
  exact ⟨cs, h1, h3⟩

/-! ### What the three rows hold -/
def wo (ss : List ByteArray) (f : ByteArray) : List ByteArray := ss.filter fun s => !(s.toList == f.toList)

def rvF (ss : List ByteArray) (n k : Nat) : Nat → Value := fun j => .string (if n - k ≤ j then ss.getD (n - 1 - j) ByteArray.empty else ByteArray.empty)

theorem rvF_step {w : World} {g t n k : Nat} {ss : List ByteArray} (hk : k < n) (h : w.rowIs g t n (rvF ss n k)) :
    (w.setCell ⟨g, n - 1 - k, none⟩ (.string (ss.getD k ByteArray.empty))).rowIs g t n (rvF ss n (k + 1)) := by
  refine (h.set (n - 1 - k) _).congr fun j hj => ?_
  by_cases e : j = n - 1 - k
  · subst e
    rw [if_pos rfl]
    simp only [rvF]
    rw [if_pos (by omega), show n - 1 - (n - 1 - k) = k by omega]
  · rw [if_neg e]
    simp only [rvF]
    by_cases h1 : n - k ≤ j
    · rw [if_pos h1, if_pos (by omega)]
    · rw [if_neg h1, if_neg (by omega)]

theorem rvF_sat {w : World} {g t n : Nat} {ss : List ByteArray} (hn : ss.length = n) (h : w.rowIs g t n (rvF ss n n)) : Sat w g 0 ss.reverse := by
  intro j hj
  rw [List.length_reverse] at hj
  rw [Nat.zero_add, h.cell (i := j) (by omega)]
  simp only [rvF]
  rw [if_pos (by omega)]
  congr 2
  simp only [List.getD]
  rw [List.getElem?_reverse (by omega)]
  rw [hn]

theorem own_sat {w : World} {base g n cap : Nat} {ss : List ByteArray} (hn : ss.length = n) (h : w.ownsRow base 9 1 (.slice (some ⟨g, 0, none⟩) n cap) n (ss.map Value.string)) : Sat w g 0 ss := by
  intro j hj
  rw [Nat.zero_add, h.cellAt j (by omega)]
  simp [List.getD, hj]

/-! ### The loop's world -/
structure LInv (W : World) (g n : Nat) (ss : List ByteArray) (f : ByteArray) (k : Nat) (wr : World) : Prop where
  own5 : wr.ownsRow g 9 1 (.slice (some ⟨g, 0, none⟩) k (n + 1)) k ((ss.take k).map Value.string)
  own6 : wr.ownsRow g 9 1 (.slice (some ⟨g + 1, 0, none⟩) (wo (ss.take k) f).length n) (wo (ss.take k) f).length ((wo (ss.take k) f).map Value.string)
  row7 : wr.rowIs (g + 2) 9 n (rvF ss n k)
  size : g + 3 ≤ wr.heap.size
  bel : Below g W wr

theorem linv_start (W : World) (n : Nat) (hn : n ≤ 1048576) (ss : List ByteArray) (f : ByteArray) (c1 c2 c3 : Array Value) (h1 : c1.size = n + 1) (h2 : c2.size = n) (h3 : c3.size = n)
    (hz : ∀ i, i < n → c3[i]? = some (.string ByteArray.empty)) : LInv W W.heap.size n ss f 0 (((W.alloc (.cells c1 9)).alloc (.cells c2 9)).alloc (.cells c3 9)) := by
  refine ⟨?_, ?_, ?_, by simp, (((Below.refl _ _).alloc (Nat.le_refl _) _).alloc (by simp) _).alloc (by simp; omega) _⟩
  · exact ((World.ownsRow_made (base := W.heap.size) (e := 9) (size := 1) W c1 (n + 1) (Nat.le_refl _) (by unfold maxLen; omega) (by omega)).alloc _).alloc _
  · have h := (World.ownsRow_made (base := W.heap.size) (e := 9) (size := 1) (W.alloc (.cells c1 9)) c2 n (by simp) (by unfold maxLen; omega) (by omega)).alloc (.cells c3 9)
    simpa [wo] using h
  · have h := World.rowIs_alloc ((W.alloc (.cells c1 9)).alloc (.cells c2 9)) c3 9 (rvF ss n 0) (fun i hi => by
      rw [hz i (by omega)]
      simp only [rvF]
      rw [if_neg (by omega)])
    rw [h3] at h
    simpa using h

theorem rowIs_grown {w w' : World} {b t n : Nat} {F : Nat → Value} {row : Option Nat} (h : w.rowIs b t n F) (hg : w.grownBy w' row) (hne : some b ≠ row) : w'.rowIs b t n F :=
  h.of_block (hg.block b h.lt hne)

/-- One element: it goes to 'with' and to 'rev' alone. -/
theorem linv_drop {W wr w1 : World} {g n k : Nat} {ss : List ByteArray} {f s : ByteArray} (hn : ss.length = n) (hk : k < n) (hs : s = ss.getD k ByteArray.empty) (he : (s.toList == f.toList) = true)
    (h : LInv W g n ss f k wr) (hown : w1.ownsRow g 9 1 (.slice (some ⟨g, 0, none⟩) (k + 1) (n + 1)) (k + 1) ((ss.take k).map Value.string ++ [.string s]))
    (hgrow : (wr.alloc (.cells #[.string s] 9)).grownBy w1 (some g)) : LInv W g n ss f (k + 1) (w1.setCell ⟨g + 2, n - 1 - k, none⟩ (.string s)) := by
  have hsz := h.size
  have hsz1 : g + 3 ≤ w1.heap.size := by have := hgrow.size; simp at this; omega
  have hse : s = ss[k] := by rw [hs]; simp [List.getD, hn, hk]
  have ht : ss.take (k + 1) = ss.take k ++ [s] := by rw [List.take_succ_eq_append_getElem (by omega), hse]
  have hw : wo (ss.take (k + 1)) f = wo (ss.take k) f := by
    rw [ht]; unfold wo; rw [List.filter_append]; simp [he]
  have hst : w1.grownBy (w1.setCell ⟨g + 2, n - 1 - k, none⟩ (.string s)) (some (g + 2)) := ⟨rfl, rfl, rfl, by simp, fun i _ hi => heap_setCell_other w1 _ i _ (fun e => hi (by simp [e]))⟩
  refine ⟨?_, ?_, ?_, by simpa using hsz1, ?_⟩
  · rw [ht, List.map_append]
    exact hown.kept hst (.inr (by simp [Value.ownBlock]))
  · rw [hw]
    exact ((h.own6.alloc _).kept hgrow (.inr (by simp [Value.ownBlock]))).kept hst (.inr (by simp [Value.ownBlock]))
  · rw [hs]
    exact rvF_step hk (rowIs_grown (h.row7.alloc _) hgrow (by simp))
  · exact ((h.bel.alloc (by omega) _).grown hgrow (by simp; omega) (fun i hi => by cases hi; exact Nat.le_refl _)).setCell (by show g ≤ g + 2; omega) _

/-- One element: it goes to all three. -/
theorem linv_keep {W wr w1 w2 : World} {g n k : Nat} {ss : List ByteArray} {f s : ByteArray} (hn : ss.length = n) (hk : k < n) (hs : s = ss.getD k ByteArray.empty) (he : (s.toList == f.toList) = false)
    (h : LInv W g n ss f k wr) (hown : w1.ownsRow g 9 1 (.slice (some ⟨g, 0, none⟩) (k + 1) (n + 1)) (k + 1) ((ss.take k).map Value.string ++ [.string s]))
    (hgrow : (wr.alloc (.cells #[.string s] 9)).grownBy w1 (some g))
    (hown2 : w2.ownsRow g 9 1 (.slice (some ⟨g + 1, 0, none⟩) ((wo (ss.take k) f).length + 1) n) ((wo (ss.take k) f).length + 1) ((wo (ss.take k) f).map Value.string ++ [.string s]))
    (hgrow2 : (w1.alloc (.cells #[.string s] 9)).grownBy w2 (some (g + 1))) : LInv W g n ss f (k + 1) (w2.setCell ⟨g + 2, n - 1 - k, none⟩ (.string s)) := by
  have hsz := h.size
  have hsz1 : g + 3 ≤ w1.heap.size := by have := hgrow.size; simp at this; omega
  have hsz2 : g + 3 ≤ w2.heap.size := by have := hgrow2.size; simp at this; omega
  have hse : s = ss[k] := by rw [hs]; simp [List.getD, hn, hk]
  have ht : ss.take (k + 1) = ss.take k ++ [s] := by rw [List.take_succ_eq_append_getElem (by omega), hse]
  have hw : wo (ss.take (k + 1)) f = wo (ss.take k) f ++ [s] := by
    rw [ht]; unfold wo; rw [List.filter_append]; simp [he]
  have hst : w2.grownBy (w2.setCell ⟨g + 2, n - 1 - k, none⟩ (.string s)) (some (g + 2)) := ⟨rfl, rfl, rfl, by simp, fun i _ hi => heap_setCell_other w2 _ i _ (fun e => hi (by simp [e]))⟩
  refine ⟨?_, ?_, ?_, by simpa using hsz2, ?_⟩
  · rw [ht, List.map_append]
    exact ((hown.alloc _).kept hgrow2 (.inr (by simp [Value.ownBlock]))).kept hst (.inr (by simp [Value.ownBlock]))
  · rw [hw, List.map_append, List.length_append]
    exact hown2.kept hst (.inr (by simp [Value.ownBlock]))
  · rw [hs]
    exact rvF_step hk (rowIs_grown ((rowIs_grown (h.row7.alloc _) hgrow (by simp)).alloc _) hgrow2 (by simp))
  · exact ((((h.bel.alloc (by omega) _).grown hgrow (by simp; omega) (fun i hi => by cases hi; exact Nat.le_refl _)).alloc (by omega) _).grown hgrow2 (by simp; omega) (fun i hi => by cases hi; omega)).setCell (by show g ≤ g + 2; omega) _

/-! ### The plain law -/
theorem tk_with (ss : List ByteArray) (f : ByteArray) : tk (ss ++ [f]) f = true := by simp [tk]
theorem tk_wo (ss : List ByteArray) (f : ByteArray) : tk (wo ss f) f = false := by
  simp [tk, wo]
theorem tk_rev (ss : List ByteArray) (f : ByteArray) : tk ss.reverse f = tk ss f := by simp [tk]
theorem wo_len (ss : List ByteArray) (f : ByteArray) : (wo ss f).length ≤ ss.length := List.length_filter_le _ _
theorem wo_lt {ss : List ByteArray} {f : ByteArray} (h : tk ss f = true) : (wo ss f).length < ss.length := by
  induction ss with
  | nil => simp [tk] at h
  | cons s ss ih =>
    have := wo_len ss f
    unfold wo at this ih ⊢
    rw [List.filter_cons]
    by_cases e : (s.toList == f.toList) = true
    · simp only [e, Bool.not_true, Bool.false_eq_true, if_false, List.length_cons]; omega
    · have e' : (s.toList == f.toList) = false := by simpa using e
      have h' : tk ss f = true := by unfold tk at h ⊢; rw [List.any_cons, e'] at h; simpa using h
      have := ih h'
      simp only [e', Bool.not_false, if_true, List.length_cons]; omega
theorem wo_eq {ss : List ByteArray} {f : ByteArray} (h : tk ss f = false) : (wo ss f).length = ss.length := by
  have : wo ss f = ss := by
    unfold wo
    rw [List.filter_eq_self]
    intro s hs
    unfold tk at h
    rw [List.any_eq_false] at h
    have := h s hs
    simpa using this
  rw [this]
end Go.Proofs.Qxb6606001aMods
