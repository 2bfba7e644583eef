import GoSem.Op.String
namespace Go.Proofs.Qxb6606001aMods

/-! ### The order of the bytes' lists -/
theorem less_irrefl : ∀ x : List UInt8, Op.bytesLess x x = false
  | [] => rfl
  | a :: x => by rw [Op.bytesLess, less_irrefl x]; simp

theorem less_trans : ∀ {x y z : List UInt8}, Op.bytesLess y x = false → Op.bytesLess z y = false → Op.bytesLess z x = false
  | [], _, z, _, _ => by cases z <;> rfl
  | a :: x, [], z, h, _ => by simp [Op.bytesLess] at h
  | a :: x, b :: y, [], _, h => by simp [Op.bytesLess] at h
  | a :: x, b :: y, c :: z, h1, h2 => by
    rw [Op.bytesLess] at h1 h2 ⊢
    simp only [Bool.or_eq_false_iff, Bool.and_eq_false_iff, decide_eq_false_iff_not, UInt8.lt_iff_toNat_lt, beq_eq_false_iff_ne, ne_eq, ← UInt8.toNat_inj] at h1 h2 ⊢
    refine ⟨by omega, ?_⟩
    by_cases e : c.toNat = a.toNat
    · right
      rcases h1.2 with h | h
      · omega
      · rcases h2.2 with h' | h'
        · omega
        · exact less_trans h h'
    · exact .inl e

theorem less_antisymm : ∀ {x y : List UInt8}, Op.bytesLess x y = false → Op.bytesLess y x = false → x = y
  | [], [], _, _ => rfl
  | [], _ :: _, h, _ => by simp [Op.bytesLess] at h
  | _ :: _, [], _, h => by simp [Op.bytesLess] at h
  | a :: x, b :: y, h1, h2 => by
    rw [Op.bytesLess] at h1 h2
    simp only [Bool.or_eq_false_iff, Bool.and_eq_false_iff, decide_eq_false_iff_not, UInt8.lt_iff_toNat_lt, beq_eq_false_iff_ne, ne_eq, ← UInt8.toNat_inj] at h1 h2
    have e : a.toNat = b.toNat := by omega
    have hx : x = y := less_antisymm (by rcases h1.2 with h | h; exact absurd e h; exact h) (by rcases h2.2 with h | h; exact absurd e.symm h; exact h)
    rw [hx, UInt8.toNat_inj.1 e]

theorem less_asymm : ∀ {x y : List UInt8}, Op.bytesLess x y = true → Op.bytesLess y x = false
  | [], [], h => by simp [Op.bytesLess] at h
  | [], _ :: _, _ => rfl
  | _ :: _, [], h => by simp [Op.bytesLess] at h
  | a :: x, b :: y, h => by
    rw [Op.bytesLess] at h ⊢
    simp only [Bool.or_eq_false_iff, Bool.and_eq_false_iff, Bool.or_eq_true, Bool.and_eq_true, decide_eq_true_eq, decide_eq_false_iff_not, UInt8.lt_iff_toNat_lt, beq_eq_false_iff_ne, beq_iff_eq, ne_eq, ← UInt8.toNat_inj] at h ⊢
    refine ⟨by omega, ?_⟩
    rcases h with h | ⟨h, h'⟩
    · exact .inl (by omega)
    · exact .inr (less_asymm h')

/-- 'not x > y' is 'x ≤ y'. -/
theorem le_of_not_gt {x y : List UInt8} (h : (!(Op.bytesLess x y || x == y)) = false) : Op.bytesLess y x = false := by
  simp only [Bool.not_eq_false', Bool.or_eq_true, beq_iff_eq] at h
  rcases h with h | h
  · exact less_asymm h
  · rw [h]; exact less_irrefl _
/-- 'x > y' gives 'y ≤ x'. -/
theorem le_of_gt {x y : List UInt8} (h : (!(Op.bytesLess x y || x == y)) = true) : Op.bytesLess x y = false := by
  simp only [Bool.not_eq_true', Bool.or_eq_false_iff] at h
  exact h.1

/-! ### Insertion -/
/-- F's first k in order. -/
def Ordered (F : Nat → ByteArray) (k : Nat) : Prop := ∀ a b, a ≤ b → b < k → Op.bytesLess (F b).toList (F a).toList = false

def SameOnes (F G : Nat → ByteArray) (n : Nat) : Prop := ∀ s, (∃ p, p < n ∧ F p = s) ↔ (∃ p, p < n ∧ G p = s)

/-- The hole has moved from k down to j. -/
def shf (F : Nat → ByteArray) (k j : Nat) : Nat → ByteArray := fun p => if j < p ∧ p ≤ k then F (p - 1) else F p
/-- F k laid into the hole. -/
def ins (F : Nat → ByteArray) (k j : Nat) : Nat → ByteArray := fun p => if p = j then F k else shf F k j p

theorem shf_self (F : Nat → ByteArray) (k : Nat) : shf F k k = F := by
  funext p; unfold shf; rw [if_neg (by omega)]
theorem shf_at {F : Nat → ByteArray} {k j : Nat} : shf F k (j + 1) j = F j := by
  unfold shf; rw [if_neg (by omega)]
theorem shf_step {F : Nat → ByteArray} {k j : Nat} (h : j + 1 ≤ k) (p : Nat) : (if p = j + 1 then F j else shf F k (j + 1) p) = shf F k j p := by
  by_cases e : p = j + 1
  · subst e; unfold shf; rw [if_pos rfl, if_pos (by omega)]; rfl
  · rw [if_neg e]; unfold shf
    by_cases h1 : j + 1 < p ∧ p ≤ k
    · rw [if_pos h1, if_pos (by omega)]
    · rw [if_neg h1]
      by_cases h2 : j < p ∧ p ≤ k
      · omega
      · rw [if_neg h2]

theorem ins_same {F : Nat → ByteArray} {k j n : Nat} (hj : j ≤ k) (hk : k < n) : SameOnes (ins F k j) F n := by
  intro s
  constructor
  · rintro ⟨p, hp, e⟩
    unfold ins at e
    by_cases h : p = j
    · rw [if_pos h] at e; exact ⟨k, hk, e⟩
    · rw [if_neg h] at e
      unfold shf at e
      by_cases h2 : j < p ∧ p ≤ k
      · rw [if_pos h2] at e; exact ⟨p - 1, by omega, e⟩
      · rw [if_neg h2] at e; exact ⟨p, hp, e⟩
  · rintro ⟨p, hp, e⟩
    by_cases h : p = k
    · exact ⟨j, by omega, by unfold ins; rw [if_pos rfl, ← h]; exact e⟩
    · by_cases h2 : j ≤ p ∧ p < k
      · refine ⟨p + 1, by omega, ?_⟩
        unfold ins; rw [if_neg (by omega)]; unfold shf; rw [if_pos (by omega)]; exact e
      · refine ⟨p, hp, ?_⟩
        unfold ins; rw [if_neg (by omega)]; unfold shf; rw [if_neg (by omega)]; exact e

theorem ins_ordered {F : Nat → ByteArray} {k j : Nat} (hj : j ≤ k) (ho : Ordered F k) (hhi : ∀ p, j ≤ p → p < k → Op.bytesLess (F p).toList (F k).toList = false)
    (hlo : ∀ p, p < j → Op.bytesLess (F k).toList (F p).toList = false) : Ordered (ins F k j) (k + 1) := by
  have hv : ∀ p, p ≤ k → (p < j ∧ ins F k j p = F p) ∨ (p = j ∧ ins F k j p = F k) ∨ (j < p ∧ ins F k j p = F (p - 1)) := by
    intro p hp
    by_cases h : p = j
    · exact .inr (.inl ⟨h, by unfold ins; rw [if_pos h]⟩)
    · by_cases h2 : j < p
      · exact .inr (.inr ⟨h2, by unfold ins; rw [if_neg h]; unfold shf; rw [if_pos ⟨h2, hp⟩]⟩)
      · exact .inl ⟨by omega, by unfold ins; rw [if_neg h]; unfold shf; rw [if_neg (by omega)]⟩
  intro a b hab hb
  rcases hv a (by omega) with ⟨ha, ea⟩ | ⟨ha, ea⟩ | ⟨ha, ea⟩ <;> rcases hv b (by omega) with ⟨hb', eb⟩ | ⟨hb', eb⟩ | ⟨hb', eb⟩ <;> rw [ea, eb]
  · exact ho a b hab (by omega)
  · exact hlo a ha
  · exact ho a (b - 1) (by omega) (by omega)
  · omega
  · exact less_irrefl _
  · exact hhi (b - 1) (by omega) (by omega)
  · omega
  · omega
  · exact ho (a - 1) (b - 1) (by omega) (by omega)

theorem hhi_step {F : Nat → ByteArray} {k j : Nat} (h : ∀ p, j + 1 ≤ p → p < k → Op.bytesLess (F p).toList (F k).toList = false) (hx : (!(Op.bytesLess (F j).toList (F k).toList || (F j).toList == (F k).toList)) = true) :
    ∀ p, j ≤ p → p < k → Op.bytesLess (F p).toList (F k).toList = false := by
  intro p hp hk
  by_cases e : p = j
  · subst e; exact le_of_gt hx
  · exact h p (by omega) hk

theorem hlo_of {F : Nat → ByteArray} {k j : Nat} (hj : j + 1 ≤ k) (ho : Ordered F k) (hx : (!(Op.bytesLess (F j).toList (F k).toList || (F j).toList == (F k).toList)) = false) :
    ∀ p, p < j + 1 → Op.bytesLess (F k).toList (F p).toList = false := by
  intro p hp
  exact less_trans (ho p j (by omega) (by omega)) (le_of_not_gt hx)

/-! ### The search -/
theorem search_lo {F : Nat → ByteArray} {f : ByteArray} {n m : Nat} (ho : Ordered F n) (hm : m < n) (h : Op.bytesLess (F m).toList f.toList = true) : ∀ p, p < m + 1 → Op.bytesLess (F p).toList f.toList = true := by
  intro p hp
  cases e : Op.bytesLess (F p).toList f.toList
  · have := less_trans e (ho p m (by omega) hm)
    rw [this] at h; exact h
  · rfl

theorem search_hi {F : Nat → ByteArray} {f : ByteArray} {n m : Nat} (ho : Ordered F n) (h : Op.bytesLess (F m).toList f.toList = false) : ∀ p, m ≤ p → p < n → Op.bytesLess (F p).toList f.toList = false := by
  intro p hp hn
  exact less_trans h (ho m p hp hn)

/-- What the search finds. -/
theorem search_none {F : Nat → ByteArray} {f : ByteArray} {n lo : Nat} (ho : Ordered F n) (hlo : ∀ p, p < lo → Op.bytesLess (F p).toList f.toList = true) (hhi : ∀ p, lo ≤ p → p < n → Op.bytesLess (F p).toList f.toList = false)
    (hne : lo < n → ((F lo).toList == f.toList) = false) : ¬ ∃ p, p < n ∧ (F p).toList = f.toList := by
  rintro ⟨p, hp, e⟩
  have h1 : lo ≤ p := by
    apply Nat.le_of_not_lt
    intro h
    have := hlo p h
    rw [e, less_irrefl] at this
    cases this
  have h2 := hhi lo (Nat.le_refl _) (by omega)
  have h3 := ho lo p h1 hp
  rw [e] at h3
  have h4 := less_antisymm h2 h3
  have h5 := hne (by omega)
  rw [h4] at h5
  simp at h5
end Go.Proofs.Qxb6606001aMods
