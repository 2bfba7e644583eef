import Derived.Test.Qxb6608727aModsClone
namespace Go.Proofs.Qxb6608727aMods
open Go.RowKit Go.Maps Go.WideMaps
set_option linter.unusedVariables false

/-- A map as a plain function. -/
abbrev PM := List UInt8 → Option Int
def upd (M : PM) (k : List UInt8) (v : Int) : PM := fun s => if k = s then some v else M s
/-- Set unless it is set. -/
def setF (M : PM) (k : List UInt8) (v : Int) : PM := if (M k).isSome then M else upd M k v

theorem keyed9 : Keyed Trym.prog 9 := string_keyed Trym.underlying9
theorem zero3 (w : World) : (zeroValue 3).run Trym.prog w = .ok (.int .i64 0) w := by kernel_rfl
theorem keyLit (l : List UInt8) : WideAt.IsKeyLit (.string l) := by simp [WideAt.IsKeyLit]

/-- BLOCK b IS A map[string]int OF sz ENTRIES (at most n) THAT READS AS M. -/
def MapIs (w : World) (b n : Nat) (M : PM) (sz : Nat) : Prop :=
  ∃ D : DataW Unit, w.ownsMap Trym.prog 9 (plainElem Trym.prog 3) b n D ∧ (∀ l, Maps.has D (.string l) = (M l).isSome) ∧ (∀ l v, M l = some v → D.atKey (.string l) (.lit (.int .i64 0)) = .lit (.int .i64 v)) ∧ Maps.size D = sz

variable {w w' : World} {b n sz : Nat} {M : PM}

theorem MapIs.made (w : World) : MapIs (w.alloc (.map #[] 0)) w.heap.size 0 (fun _ => none) 0 :=
  ⟨.map [], World.ownsMap_made _ _ _ _, fun _ => rfl, (fun _ _ h => by cases h), rfl⟩

theorem MapIs.lt (h : MapIs w b n M sz) : b < w.heap.size := by obtain ⟨D, h, _⟩ := h; exact h.lt
theorem MapIs.size_le (h : MapIs w b n M sz) : sz ≤ n := by obtain ⟨D, h, _, _, rfl⟩ := h; exact h.size_le
theorem MapIs.drew (h : MapIs w b n M sz) : MapIs w.drew b n M sz := h
theorem MapIs.below {B : Nat} (h : MapIs w b n M sz) (hw : Below B w w') (hb : b < B) : MapIs w' b n M sz := by
  obtain ⟨D, ⟨es, clock, hh, F, hs, hD⟩, r⟩ := h
  exact ⟨D, ⟨es, clock, (hw.block b hb).trans hh, F, hs, hD⟩, r⟩

/-- 'v, ok := m[k]'. -/
theorem MapIs.look (h : MapIs w b n M sz) (s : ByteArray) (hs : s.size ≤ maxLen) :
    (Instr.lookup 29 (.map (some b)) (.string s) true).run Trym.prog w = .ok (.tuple #[.int .i64 ((M s.toList).getD 0), .bool (M s.toList).isSome]) w := by
  obtain ⟨D, hown, hhas, hat, _⟩ := h
  obtain ⟨v, ps, hrun, hv⟩ := hown.look_ok keyed9 Trym.underlying29 (zero3 w) (plainElem_int Trym.underlying3 (by decide)) (keyOf_string_mk Trym.underlying9 hs)
  obtain ⟨c, rfl, hc, _⟩ := plainElem_int_inv Trym.underlying3 hv
  simp only [Prod.mk.injEq] at hc
  rw [hrun, hhas, ByteArray.toList_eq]
  cases hm : M s.data.toList with
  | none =>
    have h0 : Maps.has D (.string s.data.toList) = false := by rw [hhas, hm]; rfl
    have e := (Maps.atKey_of_not_has h0 (.lit (.int .i64 0))).symm.trans hc.1
    simp only [DataW.lit.injEq, Lit.int.injEq, true_and] at e
    rw [← e]; rfl
  | some x =>
    have e := (hat _ _ hm).symm.trans hc.1
    simp only [DataW.lit.injEq, Lit.int.injEq, true_and] at e
    rw [← e]; rfl

/-- 'len(m)'. -/
theorem MapIs.len (h : MapIs w b n M sz) (ty : TypeId) : (Builtin.len_ #[29] ty #[.map (some b)]).run Trym.prog w = .ok (.int .i64 (sz : Int)) w := by
  obtain ⟨D, hown, _, _, rfl⟩ := h
  exact hown.len Trym.underlying29 ty

/-- 'm[k] = v'. -/
theorem MapIs.store (h : MapIs w b n M sz) (hn : n < maxLen) (s : ByteArray) (hs : s.size ≤ maxLen) (v : Int) (hv : (Lit.int .i64 v).wf = true) :
    ∃ w1, (Instr.mapUpdate 29 (.map (some b)) (.string s) (.int .i64 v)).run Trym.prog w = .ok () w1 ∧ MapIs w1 b (n + 1) (upd M s.toList v) (if (M s.toList).isSome then sz else sz + 1) ∧ w.grownBy w1 (some b) := by
  obtain ⟨D, hown, hhas, hat, hsz⟩ := h
  obtain ⟨w1, hrun, hown1, hg⟩ := hown.update keyed9 Trym.underlying29 hn (keyOf_string_mk Trym.underlying9 hs) (plainElem_int Trym.underlying3 hv)
  refine ⟨w1, hrun, ⟨_, hown1, fun l => ?_, fun l x hx => ?_, ?_⟩, hg⟩
  · rw [ByteArray.toList_eq]
    unfold upd
    by_cases e : s.data.toList = l
    · rw [if_pos e, ← e]; exact Maps.has_put_same hown.isMap (keyLit _) _
    · rw [if_neg e, Maps.has_put_other (by simpa using fun h => e h.symm)]; exact hhas l
  · rw [ByteArray.toList_eq] at hx
    unfold upd at hx
    by_cases e : s.data.toList = l
    · rw [if_pos e] at hx; cases hx; rw [← e]; exact Maps.atKey_put_same hown.isMap (keyLit _) _ _
    · rw [if_neg e] at hx; rw [Maps.atKey_put_other (by simpa using fun h => e h.symm)]; exact hat l x hx
  · rw [Maps.size_put (hown.tidy keyed9), hhas, hsz, ByteArray.toList_eq]
end Go.Proofs.Qxb6608727aMods
