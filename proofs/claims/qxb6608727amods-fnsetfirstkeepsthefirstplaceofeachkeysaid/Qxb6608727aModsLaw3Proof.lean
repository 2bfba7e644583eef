import Derived.Test.Qxb6608727aModsOpen
import Derived.Test.Qxb6608727aModsLaw3
namespace Go.Proofs.Qxb6608727aMods
open Go.ChangeShapes Go.WideShapes Go.ChangeAt Go.RowKit
set_option linter.unusedVariables false

set_option maxRecDepth 100000 in
theorem law3_lifted (os : Os) (started : os.Started) (H : Type) (enc : TypeId × Value → H) :
    ReturnsInHanded {} Trym.checked os 3 .any (Rows.fnSetFirstKeepsTheFirstPlaceOfEachKeySpec.pre6 enc Trym.prog Trym.f3 Rows.fnSetFirstKeepsTheFirstPlaceOfEachKeyRow.domain false) (Rows.fnSetFirstKeepsTheFirstPlaceOfEachKeySpec.post enc Trym.prog Trym.f3 false true false false) := by
  refine returnsInHanded_of_change (C := Trym.checked) own started (by kernel_rfl) Trym.func3
    (ChangeSpec.witness6 (enc := enc) (C := Trym.checked) false ⟨#[], #[.slice none 0 0, .slice none 0 0, .slice none 0 0, .slice none 0 0], []⟩ 8 (by kernel_rfl) (by kernel_rfl) (by kernel_rfl) (by kernel_rfl)) ?_
  intro W base args ds gs before hval0 hW hcnd _
  have hval : ∀ (j : Nat) t v, Trym.f3.params[j]? = some t → args[j]? = some v → Value.okWide Trym.prog W .any base t v := hval0
  have hW' := hW
  obtain ⟨p, q, hA0, hV, rfl, hfz, hnd⟩ := hW
  have hA : DataW.TrodAll enc Trym.prog W 0 (fun _ => true) true Trym.f3.params.toList args.toList ds p := hA0
  rw [Trym.params3] at hA hval
  obtain ⟨v0, vs0, d0, ds0, p0, q0, hargs, rfl, rfl, h0, r0⟩ := trodAll_cons hA
  obtain ⟨v1, vs1, d1, ds1, p1, q1, rfl, rfl, rfl, h1, r1⟩ := trodAll_cons r0
  obtain ⟨v2, vs2, d2, ds2, p2, q2, rfl, rfl, rfl, h2, r2⟩ := trodAll_cons r1
  obtain ⟨v3, vs3, d3, ds3, p3, q3, rfl, rfl, rfl, h3, r3⟩ := trodAll_cons r2
  obtain ⟨rfl, rfl, rfl⟩ := trodAll_nil r3
  obtain rfl : args = #[v0, v1, v2, v3] := by cases args; simp_all
  obtain ⟨rfl, rfl⟩ := trodVars_none hV
  obtain ⟨a0, len0, cap0, rfl⟩ := okWide_slice Trym.underlying22 (hval 0 22 v0 rfl rfl)
  obtain ⟨a1, len1, cap1, rfl⟩ := okWide_slice Trym.underlying23 (hval 1 23 v1 rfl rfl)
  obtain ⟨a2, len2, cap2, rfl⟩ := okWide_slice Trym.underlying22 (hval 2 22 v2 rfl rfl)
  obtain ⟨a3, len3, cap3, rfl⟩ := okWide_slice Trym.underlying23 (hval 3 23 v3 rfl rfl)
  have k0 := h0
  have k1 := h1
  have k2 := h2
  have k3 := h3
  have lt0 : ∀ x ∈ p0, x.block < W.heap.size := by obtain ⟨m, hm⟩ := k0; exact DataW.trod_lt m _ _ _ hm
  have lt1 : ∀ x ∈ p1, x.block < W.heap.size := by obtain ⟨m, hm⟩ := k1; exact DataW.trod_lt m _ _ _ hm
  have lt2 : ∀ x ∈ p2, x.block < W.heap.size := by obtain ⟨m, hm⟩ := k2; exact DataW.trod_lt m _ _ _ hm
  have lt3 : ∀ x ∈ p3, x.block < W.heap.size := by obtain ⟨m, hm⟩ := k3; exact DataW.trod_lt m _ _ _ hm
  obtain ⟨ss, hlen, hS, hl0, hview⟩ : ∃ ss : List ByteArray, ss.length = len0 ∧ AllS ss ∧ len0 ≤ maxLen ∧ View W a0 ss := by
    obtain ⟨fuel, hf⟩ := h0
    exact view_of_trod (by simpa [Value.cells] using hf)
  obtain ⟨zs, hzlen, hZ, hl1, hiview⟩ : ∃ zs : List Int, zs.length = len1 ∧ AllI zs ∧ len1 ≤ maxLen ∧ IView W a1 zs := by
    obtain ⟨fuel, hf⟩ := h1
    exact iview_of_trod (by simpa [Value.cells] using hf)
  obtain ⟨kk, hklen, hK, hl2, hkview⟩ : ∃ ss : List ByteArray, ss.length = len2 ∧ AllS ss ∧ len2 ≤ maxLen ∧ View W a2 ss := by
    obtain ⟨fuel, hf⟩ := h2
    exact view_of_trod (by simpa [Value.cells] using hf)
  obtain ⟨yy, hylen, hY, hl3, hyview⟩ : ∃ zs : List Int, zs.length = len3 ∧ AllI zs ∧ len3 ≤ maxLen ∧ IView W a3 zs := by
    obtain ⟨fuel, hf⟩ := h3
    exact iview_of_trod (by simpa [Value.cells] using hf)
  clear hA0 hval0
  refine (law3_any a0 a1 a2 a3 len0 cap0 len1 cap1 len2 cap2 len3 cap3 ss zs kk yy hlen hzlen hklen hylen hS hZ hK hY hl1 hl3 W hview hiview hkview hyview).mono fun e W' ⟨he, bel⟩ => ?_
  subst he
  exact ⟨_, rfl, _, _, _, [], _, [], hW', trodAll_mk1 (shut_bool Trym.underlying4 _), (trodAll_cons_mk (Below.trod laidOut (by kernel_rfl) (of_decide_eq_true (by kernel_rfl)) k0 bel lt0) (trodAll_cons_mk (Below.trod laidOut (by kernel_rfl) (of_decide_eq_true (by kernel_rfl)) k1 bel lt1) (trodAll_cons_mk (Below.trod laidOut (by kernel_rfl) (of_decide_eq_true (by kernel_rfl)) k2 bel lt2) (trodAll_cons_mk (Below.trod laidOut (by kernel_rfl) (of_decide_eq_true (by kernel_rfl)) k3 bel lt3) trodAll_mk0)))), rfl, bel.frame _, fun h => by cases h⟩

theorem law3_over : Rows.fnSetFirstKeepsTheFirstPlaceOfEachKeyRow.holds Trym.pinned (OpenSpec.ofChange Rows.fnSetFirstKeepsTheFirstPlaceOfEachKeySpec) :=
  OpenClaim.holds_of_wide 3 Trym.f3 rfl rfl rfl rfl rfl rfl rfl ⟨rfl, rfl, rfl, rfl, rfl⟩ rfl rfl rfl rfl rfl (by kernel_rfl) Trym.func3 (by kernel_rfl)
    (of_decide_eq_true (by kernel_rfl)) (by unfold Func.isWrapper; first | (rw [if_pos (by decide +kernel)]; kernel_rfl) | (rw [if_neg (by decide +kernel)]; exact ⟨rfl, rfl⟩))
    (fun os started H enc _ => law3_lifted os started H enc)

/-- THE STATEMENT -/
theorem keepsTheFirstPlace_proved : Rows.FnSetFirstKeepsTheFirstPlaceOfEachKeySaid := law3_over
end Go.Proofs.Qxb6608727aMods
