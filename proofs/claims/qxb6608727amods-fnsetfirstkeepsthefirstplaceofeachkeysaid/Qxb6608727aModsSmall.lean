import Derived.Test.Qxb6608727aModsMapLaws
namespace Go.Proofs.Qxb6608727aMods
open Go.RowKit
set_option linter.unusedVariables false

def kAt (ks : List ByteArray) (k : Nat) : List UInt8 := (ks.getD k ByteArray.empty).toList
def vAt (vs : List Int) (k : Nat) : Int := vs.getD k 0

/-- The map built from the first n pairs. -/
def lastI (ks : List ByteArray) (vs : List Int) : Nat → PM
  | 0 => fun _ => none
  | n + 1 => upd (lastI ks vs n) (kAt ks n) (vAt vs n)

theorem lastI_hit {ks : List ByteArray} {vs : List Int} {n : Nat} {s : List UInt8} (h : kAt ks n = s) : lastI ks vs (n + 1) s = some (vAt vs n) := by
  rw [lastI]; unfold upd; rw [if_pos h]
theorem lastI_miss {ks : List ByteArray} {vs : List Int} {n : Nat} {s : List UInt8} (h : ¬ kAt ks n = s) : lastI ks vs (n + 1) s = lastI ks vs n s := by
  rw [lastI]; unfold upd; rw [if_neg h]

/-! ### zzMinLen -/
def IsInt (w : World) (r : Int) (e : Ending) (w' : World) : Prop := e = .returned (.int .i64 r) ∧ w = w'

theorem min_any (a b : Nat) (w : World) : Calls Trym.prog 9 #[.int .i64 (a : Int), .int .i64 (b : Int)] w (IsInt w ((min a b : Nat) : Int)) := by
  by_cases h : a < b
  · rw [Nat.min_eq_left (by omega)]
    go_enter Trym.func9, Trym.ntmps9
    go_wp2
    go_ret
    exact ⟨rfl, rfl⟩
  · rw [Nat.min_eq_right (by omega)]
    go_enter Trym.func9, Trym.ntmps9
    go_wp2
    go_ret
    exact ⟨rfl, rfl⟩

/-! ### zzLastInt -/
def LastP (w : World) (r : Option Int) (e : Ending) (w' : World) : Prop := e = .returned (.tuple #[.int .i64 (r.getD 0), .bool r.isSome]) ∧ w = w'

set_option maxHeartbeats 1000000 in
theorem last_any (ao ao2 : Option Addr) (nl c ml c2 n : Nat) (ss : List ByteArray) (zs : List Int) (hnl : ss.length = nl) (hml : zs.length = ml) (h1 : n ≤ nl) (h2 : n ≤ ml) (hsmall : n ≤ 1048576) (s : ByteArray) (w : World) (hv : View w ao ss) (hi : IView w ao2 zs) :
    Calls Trym.prog 12 #[.slice ao nl c, .slice ao2 ml c2, .int .i64 (n : Int), .string s] w (LastP w (lastI ss zs n s.toList)) := by
  have HNL : Hid (ss.length = nl) := hnl
  have HML : Hid (zs.length = ml) := hml
  have HV : Hid (View w ao ss) := hv
  have HI : Hid (IView w ao2 zs) := hi
  obtain ⟨r, hr⟩ : ∃ r, r = lastI ss zs n s.toList := ⟨_, rfl⟩
  rw [← hr]
  have HR : Hid (r = lastI ss zs n s.toList) := hr
  clear hnl hml hv hi hr
  go_enter Trym.func12, Trym.ntmps12
  go_wp2
  go_loop [10] (fun i => ∃ j : Nat, j ≤ n ∧ i = .int .i64 ((j : Int) - 1) ∧ lastI ss zs j s.toList = r) (fun i => (intOf i + 1).toNat)
  case atStart => exact ⟨n, Nat.le_refl _, rfl, HR.out.symm⟩
  case round =>
    obtain ⟨j, hj, rfl, hl⟩ := hrel
    rcases j with _ | j
    · have HL : Hid (none = r) := hl
      clear hl
      go_wp2
      go_ret2
      exact ⟨by rw [← HL.out]; rfl, rfl⟩
    · have HL : Hid (lastI ss zs (j + 1) s.toList = r) := hl
      clear hl
      have e : (((j + 1 : Nat) : Int) - 1) = (j : Int) := by omega
      rw [e]
      obtain ⟨b, o, hb, hix, hcell⟩ := HV.out.get HNL.out (k := j) (by omega) c
      obtain ⟨b2, o2, hb2, hix2, hcell2⟩ := HI.out.get HML.out (k := j) (by omega) c2
      obtain ⟨t, ht⟩ : ∃ t, t = ss.getD j ByteArray.empty := ⟨_, rfl⟩
      obtain ⟨v, hv⟩ : ∃ v, v = zs.getD j 0 := ⟨_, rfl⟩
      rw [← ht] at hcell
      rw [← hv] at hcell2
      have HT : Hid (t.toList = kAt ss j) := by show t.toList = kAt ss j; rw [ht]; rfl
      have HVV : Hid (v = vAt zs j) := hv
      clear ht hv e
      cases heq : (t.toList == s.toList)
      · have G : Hid (lastI ss zs j s.toList = r) := by
          show lastI ss zs j s.toList = r
          rw [← HL.out, lastI_miss (by rw [← HT.out]; simpa using heq)]
        go_wp2
        go_round
        case rel => exact ⟨j, by omega, rfl, G.out⟩
        case measure => simp only [intOf]; omega
      · have G : Hid (some v = r) := by
          show some v = r
          rw [← HL.out, lastI_hit (by rw [← HT.out]; exact beq_iff_eq.1 heq), HVV.out]
        go_wp2
        go_ret2
        exact ⟨by rw [← G.out]; rfl, rfl⟩

/-! ### zzFirstIndex -/
/-- p is the first place of s. -/
def FirstAt (ks : List ByteArray) (s : List UInt8) (p : Nat) : Prop := kAt ks p = s ∧ ∀ q, q < p → ¬ kAt ks q = s
def NoneTo (ks : List ByteArray) (s : List UInt8) (p : Nat) : Prop := ∀ q, q < p → ¬ kAt ks q = s
def FirstP (w : World) (n : Nat) (ks : List ByteArray) (s : List UInt8) (e : Ending) (w' : World) : Prop := ∃ p : Nat, p < n ∧ e = .returned (.int .i64 (p : Int)) ∧ w = w' ∧ FirstAt ks s p

set_option maxHeartbeats 1000000 in
theorem first_any (ao : Option Addr) (nl c n : Nat) (ss : List ByteArray) (hnl : ss.length = nl) (h1 : n ≤ nl) (hsmall : n ≤ 1048576) (s : ByteArray) (w : World) (hv : View w ao ss) (j0 : Nat) (hj0 : j0 < n) (hk0 : kAt ss j0 = s.toList) :
    Calls Trym.prog 13 #[.slice ao nl c, .int .i64 (n : Int), .string s] w (FirstP w n ss s.toList) := by
  have HNL : Hid (ss.length = nl) := hnl
  have HV : Hid (View w ao ss) := hv
  have HK : Hid (kAt ss j0 = s.toList) := hk0
  clear hnl hv hk0
  go_enter Trym.func13, Trym.ntmps13
  go_wp2
  go_loop [7] (fun i => ∃ k : Nat, k ≤ j0 ∧ i = .int .i64 k ∧ NoneTo ss s.toList k) (fun i => n - (intOf i).toNat)
  case atStart => exact ⟨0, Nat.zero_le _, rfl, fun q hq => by omega⟩
  case round =>
    obtain ⟨k, hk, rfl, hno⟩ := hrel
    have hlt : k < n := by omega
    obtain ⟨b, o, hb, hix, hcell⟩ := HV.out.get HNL.out (k := k) (by omega) c
    obtain ⟨t, ht⟩ : ∃ t, t = ss.getD k ByteArray.empty := ⟨_, rfl⟩
    rw [← ht] at hcell
    have HT : Hid (t.toList = kAt ss k) := by show t.toList = kAt ss k; rw [ht]; rfl
    clear ht
    cases heq : (t.toList == s.toList)
    · have hne : k ≠ j0 := fun e => by
        have h := HT.out
        rw [e, HK.out] at h
        rw [h] at heq
        simp at heq
      have G : Hid (NoneTo ss s.toList (k + 1)) := fun q hq => by
        by_cases e : q = k
        · rw [e, ← HT.out]; simpa using heq
        · exact hno q (by omega)
      have hk' : k + 1 ≤ j0 := by omega
      clear hne
      go_wp2
      go_round
      case rel => exact ⟨k + 1, by omega, by go_num, G.out⟩
      case measure => simp [intOf]; omega
    · have G : Hid (FirstAt ss s.toList k) := ⟨by rw [← HT.out]; exact beq_iff_eq.1 heq, hno⟩
      go_wp2
      go_ret
      exact ⟨k, hlt, rfl, rfl, G.out⟩

/-! ### setFirst -/
def SetP (w : World) (b n : Nat) (M : PM) (sz : Nat) (k : List UInt8) (v : Int) (e : Ending) (w' : World) : Prop :=
  e = .returned (.tuple #[]) ∧ MapIs w' b (n + 1) (setF M k v) (if (M k).isSome then sz else sz + 1) ∧ w.grownBy w' (some b)

theorem MapIs.mono {w : World} {b n sz n' : Nat} {M : PM} (h : MapIs w b n M sz) (hn : n ≤ n') : MapIs w b n' M sz := by
  obtain ⟨D, h, r⟩ := h
  exact ⟨D, h.mono hn, r⟩

theorem setfirst_any (b n : Nat) (M : PM) (sz : Nat) (s : ByteArray) (hs : s.size ≤ maxLen) (v : Int) (hv : (Lit.int .i64 v).wf = true) (hn : n < maxLen) (w : World) (h : MapIs w b n M sz) :
    Calls Trym.prog 15 #[.map (some b), .string s, .int .i64 v] w (SetP w b n M sz s.toList v) := by
  have hlook := h.look s hs
  cases hm : (M s.toList).isSome
  · obtain ⟨w1, hst, hmap, hg⟩ := h.store hn s hs v hv
    rw [hm] at hlook hmap
    have HM : Hid (MapIs w1 b (n + 1) (upd M s.toList v) (sz + 1)) := hmap
    have HE : Hid ((M s.toList).isSome = false) := hm
    have HG : Hid (w.grownBy w1 (some b)) := hg
    clear hmap hg h hm
    generalize (M s.toList).getD 0 = x at hlook
    go_enter Trym.func15, Trym.ntmps15
    go_wp2
    go_end0
    refine ⟨rfl, ?_, HG.out⟩
    unfold setF
    rw [HE.out]
    exact HM.out
  · rw [hm] at hlook
    have HM : Hid (MapIs w b n M sz) := h
    have HE : Hid ((M s.toList).isSome = true) := hm
    clear h hm
    generalize (M s.toList).getD 0 = x at hlook
    go_enter Trym.func15, Trym.ntmps15
    go_wp2
    go_end0
    refine ⟨rfl, ?_, World.grownBy.refl _ _⟩
    unfold setF
    rw [HE.out]
    exact HM.out.mono (Nat.le_succ _)

theorem zzset_any (b n : Nat) (M : PM) (sz : Nat) (s : ByteArray) (hs : s.size ≤ maxLen) (v : Int) (hv : (Lit.int .i64 v).wf = true) (hn : n < maxLen) (w : World) (h : MapIs w b n M sz) :
    Calls Trym.prog 11 #[.map (some b), .string s, .int .i64 v] w (SetP w b n M sz s.toList v) := by
  have HM : Hid (MapIs w b n M sz) := h
  clear h
  go_enter Trym.func11, Trym.ntmps11
  go_wp2_with fail
  refine (setfirst_any b n M sz s hs v hv hn w HM.out).mono ?_
  rintro e w1 ⟨rfl, hmap, hg⟩
  have HQ : Hid (MapIs w1 b (n + 1) (setF M s.toList v) (if (M s.toList).isSome then sz else sz + 1)) := hmap
  have HG : Hid (w.grownBy w1 (some b)) := hg
  clear hmap hg
  go_wp2
  go_end0
  exact ⟨rfl, HQ.out, HG.out⟩
end Go.Proofs.Qxb6608727aMods
