import Derived.Test.Qxb6608549aModsRows
import Derived.WalkKit
import Derived.WalkSpells
import Derived.WalkLawsBesides
import Derived.Handy
import Derived.Deep.OwnRows
import Derived.Laws.BytesArg
namespace Go.Proofs.Qxb6608549aMods
open Go.RowKit
set_option linter.unusedVariables false

/-! ### The plain law -/
/-- Is the byte c let at place k? -/
def okB (c k : Nat) : Bool := decide ((65 ≤ c ∧ c ≤ 90) ∨ (97 ≤ c ∧ c ≤ 122) ∨ (48 ≤ c ∧ c ≤ 57) ∨ c = 95 ∨ ((c = 46 ∨ c = 45) ∧ 0 < k))
/-- All bytes from place k on are let. -/
def gf : Nat → List UInt8 → Bool
  | _, [] => true
  | k, c :: r => okB c.toNat k && gf (k + 1) r
def vn (l : List UInt8) : Bool := decide (1 ≤ l.length ∧ l.length ≤ 128) && gf 0 l

theorem okB_pos (c k : Nat) : okB c (k + 1) = okB c 1 := by
  unfold okB
  have h1 : (0 < k + 1) = True := by simp
  have h2 : ((0 : Nat) < 1) = True := by simp
  simp only [h1, h2]

theorem gf_pos : ∀ (l : List UInt8) (k : Nat), gf (k + 1) l = gf 1 l
  | [], _ => rfl
  | c :: r, k => by rw [gf, gf, okB_pos, gf_pos r (k + 1), gf_pos r 1]

theorem gf_append : ∀ (x y : List UInt8) (k : Nat), gf k (x ++ y) = (gf k x && gf (k + x.length) y)
  | [], y, k => by simp [gf]
  | c :: r, y, k => by
    rw [List.cons_append, gf, gf, gf_append r y (k + 1), Bool.and_assoc, List.length_cons]
    congr 3
    omega

theorem gf_letters : ∀ (l : List UInt8) (k : Nat), (∀ c ∈ l, 97 ≤ c.toNat ∧ c.toNat ≤ 122) → gf k l = true
  | [], _, _ => rfl
  | c :: r, k, h => by
    rw [gf, gf_letters r (k + 1) (fun d hd => h d (by simp [hd]))]
    have := h c (by simp)
    simp [okB, this]

theorem vn_cons (a : List UInt8) (b : List UInt8) (h : a ≠ []) : vn (a ++ b) = (decide (a.length + b.length ≤ 128) && vn a && vn (97 :: b)) := by
  have h1 : 1 ≤ a.length := List.length_pos_iff.2 h
  unfold vn
  rw [gf_append, List.length_append]
  obtain ⟨m, hm⟩ : ∃ m, a.length = m + 1 := ⟨a.length - 1, by omega⟩
  rw [Nat.zero_add, hm, gf_pos, List.length_cons, gf]
  have h97 : okB (97 : UInt8).toNat 0 = true := by decide
  rw [h97, Bool.true_and, Nat.zero_add]
  cases hg : gf 0 a <;> cases hb : gf 1 b <;> simp
  rw [Bool.eq_iff_iff]
  simp
  omega

theorem vn_letters (l : List UInt8) (h : ∀ c ∈ l, 97 ≤ c.toNat ∧ c.toNat ≤ 122) : vn l = decide (1 ≤ l.length ∧ l.length ≤ 128) := by
  unfold vn; rw [gf_letters l 0 h, Bool.and_true]

/-! ### By places: what a loop sees -/
theorem gf_take_succ (l : List UInt8) (k : Nat) (h : k < l.length) : gf 0 (l.take (k + 1)) = (gf 0 (l.take k) && okB l[k].toNat k) := by
  rw [List.take_succ_eq_append_getElem h, gf_append, List.length_take, Nat.min_eq_left (by omega)]
  simp [gf]

theorem gf_bad (l : List UInt8) (k : Nat) (h : k < l.length) (hb : okB l[k].toNat k = false) : gf 0 l = false := by
  have e : l = l.take (k + 1) ++ l.drop (k + 1) := (List.take_append_drop _ _).symm
  rw [e, gf_append, gf_take_succ l k h, hb]
  simp

/-! ### The letters -/
/-- The letter that stands for a byte. -/
def ltB (c : UInt8) : Int := 97 + (c.toNat : Int) % 26
def ltS (s : ByteArray) : ByteArray := strOfNums (s.data.toList.map ltB)

theorem ltS_data (s : ByteArray) : (ltS s).data.toList = (s.data.toList.map ltB).map fun n => UInt8.ofNat n.toNat := rfl
theorem ltS_length (s : ByteArray) : (ltS s).data.toList.length = s.size := by rw [ltS_data]; simp
theorem ltS_size (s : ByteArray) : (ltS s).size = s.size := by
  unfold ltS; rw [strOfNums_size, List.length_map]; simp
theorem ltS_mem (s : ByteArray) : ∀ c ∈ (ltS s).data.toList, 97 ≤ c.toNat ∧ c.toNat ≤ 122 := by
  intro c hc
  rw [ltS_data, List.map_map] at hc
  obtain ⟨d, _, rfl⟩ := List.mem_map.1 hc
  have h : ltB d = ((97 + d.toNat % 26 : Nat) : Int) := by unfold ltB; omega
  simp only [Function.comp]
  rw [h, Int.toNat_natCast]
  have hm := Nat.mod_lt d.toNat (show 26 > 0 by omega)
  rw [UInt8.toNat_ofNat']
  rw [Nat.mod_eq_of_lt (by omega)]
  omega
end Go.Proofs.Qxb6608549aMods
