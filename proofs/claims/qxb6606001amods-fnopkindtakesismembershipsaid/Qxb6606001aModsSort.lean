import Derived.Test.Qxb6606001aModsTakes
import Derived.Test.Qxb6606001aModsOrder
namespace Go.Proofs.Qxb6606001aMods
open Go.RowKit
set_option linter.unusedVariables false

def strF (F : Nat → ByteArray) : Nat → Value := fun j => .string (F j)

/-- All from j up to k are no less than F k. -/
def HiAbove (F : Nat → ByteArray) (k j : Nat) : Prop := ∀ p, j ≤ p → p < k → Op.bytesLess (F p).toList (F k).toList = false

def SortedP (w : World) (g n : Nat) (F0 : Nat → ByteArray) (e : Ending) (w' : World) : Prop :=
  e = .returned (.tuple #[]) ∧ ∃ F, w'.rowIs g 9 n (strF F) ∧ Ordered F n ∧ SameOnes F F0 n ∧ Below g w w'

theorem row_shift {w : World} {g n k j : Nat} {F : Nat → ByteArray} (h : w.rowIs g 9 n (strF (shf F k (j + 1)))) (hj : j + 1 ≤ k) :
    (w.setCell ⟨g, j + 1, none⟩ (.string (F j))).rowIs g 9 n (strF (shf F k j)) := by
  refine (h.set (j + 1) _).congr fun p _ => ?_
  simp only [strF]
  rw [← shf_step hj p]
  split <;> rfl

theorem row_ins {w : World} {g n k j : Nat} {F : Nat → ByteArray} (h : w.rowIs g 9 n (strF (shf F k j))) :
    (w.setCell ⟨g, j, none⟩ (.string (F k))).rowIs g 9 n (strF (ins F k j)) := by
  refine (h.set j _).congr fun p _ => ?_
  simp only [strF, ins]
  split <;> rfl

theorem same_trans {F G H : Nat → ByteArray} {n : Nat} (h : SameOnes F G n) (k : SameOnes G H n) : SameOnes F H n := fun s => (h s).trans (k s)

theorem same_refl (F : Nat → ByteArray) (n : Nat) : SameOnes F F n := fun s => Iff.rfl
theorem ordered_one (F : Nat → ByteArray) : Ordered F 1 := fun a b h1 h2 => by
  obtain rfl : a = b := by omega
  exact less_irrefl _
theorem hi_start (F : Nat → ByteArray) (k : Nat) : HiAbove F k k := fun p h1 h2 => by omega

set_option maxHeartbeats 1000000 in
theorem sort_any (g n : Nat) (hsmall : n ≤ 1048576) (F0 : Nat → ByteArray) (w : World) (hrow0 : w.rowIs g 9 n (strF F0)) :
    Calls Trym.prog 8 #[.slice (some ⟨g, 0, none⟩) n n] w (SortedP w g n F0) := by
  go_enter Trym.func8, Trym.ntmps8
  go_wp2
  go_loopw [2] (fun i wr => ∃ (k : Nat) (F : Nat → ByteArray), 1 ≤ k ∧ (n ≤ 1 ∨ k ≤ n) ∧ i = .int .i64 k ∧ wr.rowIs g 9 n (strF F) ∧ Ordered F k ∧ SameOnes F F0 n ∧ Below g w wr) (fun i _ => n - (intOf i).toNat)
  case atStart => exact ⟨1, F0, Nat.le_refl _, by omega, rfl, hrow0, ordered_one F0, same_refl F0 n, Below.refl _ _⟩
  case round =>
    obtain ⟨k, F, hk1, hkn, rfl, hrow, ho, hsame, hbl⟩ := hrel
    have HO : Hid (Ordered F k) := ho
    have HSM : Hid (SameOnes F F0 n) := hsame
    clear ho hsame hrow0
    obtain ⟨wo, rfl⟩ : ∃ wo : World, wo = wr := ⟨_, rfl⟩
    by_cases hlt : k < n
    · obtain ⟨x, hx⟩ : ∃ x, x = F k := ⟨_, rfl⟩
      have hcell : wo.cell? ⟨g, k, none⟩ = some (.string x) := by rw [hx]; exact hrow.cell hlt
      have HX : Hid (x = F k) := hx
      clear hx
      go_wp2
      go_loopw [4] (fun j wi => ∃ jj : Nat, jj ≤ k ∧ j = .int .i64 jj ∧ wi.rowIs g 9 n (strF (shf F k jj)) ∧ HiAbove F k jj ∧ Below g w wi) (fun j _ => (intOf j).toNat)
      case atStart => exact ⟨k, Nat.le_refl _, rfl, by rw [shf_self]; exact hrow, hi_start F k, hbl⟩
      case round =>
        obtain ⟨jj, hjk, rfl, hr, hhi, hb⟩ := hrel
        clear hcell hrow hbl
        rcases Nat.eq_zero_or_pos jj with rfl | hpos
        · obtain ⟨y0, hc0⟩ : ∃ y, wr.cell? ⟨g, 0, none⟩ = some y := ⟨_, hr.cell (i := 0) (by omega)⟩
          have hf0 := hr.frozen 0
          have R := row_ins hr
          rw [← HX.out] at R
          have HR : Hid _ := R
          clear R hr
          go_wp2
          go_roundw
          case rel => exact ⟨k + 1, ins F k 0, by omega, by omega, by go_num, HR.out, ins_ordered (Nat.zero_le _) HO.out hhi (fun p hp => by omega), same_trans (ins_same (Nat.zero_le _) hlt) HSM.out, hb.setCell (Nat.le_refl _) _⟩
          case measure => simp [intOf]; omega
        · obtain ⟨j, rfl⟩ : ∃ j, jj = j + 1 := ⟨jj - 1, by omega⟩
          obtain ⟨y, hy⟩ : ∃ y, y = F j := ⟨_, rfl⟩
          have hcy : wr.cell? ⟨g, j, none⟩ = some (.string y) := by
            rw [hr.cell (i := j) (by omega), hy]; simp only [strF]; rw [shf_at]
          obtain ⟨y1, hc1⟩ : ∃ y, wr.cell? ⟨g, j + 1, none⟩ = some y := ⟨_, hr.cell (i := j + 1) (by omega)⟩
          have hf1 := hr.frozen (j + 1)
          have HY : Hid (y = F j) := hy
          clear hy
          have stay : Hid ((!(Op.bytesLess y.toList x.toList || y.toList == x.toList)) = false → ∀ p, p < j + 1 → Op.bytesLess (F k).toList (F p).toList = false) := fun h => by
            rw [HY.out, HX.out] at h
            exact hlo_of hjk HO.out h
          have go : Hid ((!(Op.bytesLess y.toList x.toList || y.toList == x.toList)) = true → HiAbove F k j) := fun h => by
            rw [HY.out, HX.out] at h
            exact hhi_step hhi h
          have R := row_ins hr
          rw [← HX.out] at R
          have HR : Hid _ := R
          have S := row_shift hr hjk
          rw [← HY.out] at S
          have HS : Hid _ := S
          clear R S hr
          cases hl : Op.bytesLess y.toList x.toList
          · cases he : (y.toList == x.toList)
            · have G := go.out (by rw [hl, he]; rfl)
              go_wp2
              go_roundw
              case rel => exact ⟨j, by omega, rfl, HS.out, G, hb.setCell (Nat.le_refl _) _⟩
              case measure => simp [intOf]
            · have G := stay.out (by rw [hl, he]; rfl)
              have HG : Hid _ := G
              clear G
              go_wp2
              go_roundw
              case rel => exact ⟨k + 1, ins F k (j + 1), by omega, by omega, by go_num, HR.out, ins_ordered hjk HO.out hhi HG.out, same_trans (ins_same hjk hlt) HSM.out, hb.setCell (Nat.le_refl _) _⟩
              case measure => simp [intOf]; omega
          · have G := stay.out (by rw [hl]; rfl)
            have HG : Hid _ := G
            clear G
            go_wp2
            go_roundw
            case rel => exact ⟨k + 1, ins F k (j + 1), by omega, by omega, by go_num, HR.out, ins_ordered hjk HO.out hhi HG.out, same_trans (ins_same hjk hlt) HSM.out, hb.setCell (Nat.le_refl _) _⟩
            case measure => simp [intOf]; omega
    · have HO' : Hid (Ordered F n) := fun a b h1 h2 => HO.out a b h1 (by omega)
      go_wp2
      go_end0
      exact ⟨rfl, F, hrow, HO'.out, HSM.out, hbl⟩
end Go.Proofs.Qxb6606001aMods
