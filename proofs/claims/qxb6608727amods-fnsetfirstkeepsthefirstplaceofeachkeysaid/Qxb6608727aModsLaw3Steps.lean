import Derived.Test.Qxb6608727aModsLaw3Parts
namespace Go.Proofs.Qxb6608727aMods
open Go.RowKit
set_option linter.unusedVariables false

theorem lastI_some {ks : List ByteArray} {vs : List Int} {n k : Nat} (hk : k < n) : ∃ y, lastI ks vs n (kAt ks k) = some y := by
  induction n with
  | zero => omega
  | succ n ih =>
    by_cases e : kAt ks n = kAt ks k
    · exact ⟨_, lastI_hit e⟩
    · by_cases h : k = n
      · rw [h] at e; exact absurd rfl e
      · obtain ⟨y, hy⟩ := ih (by omega)
        exact ⟨y, (lastI_miss e).trans hy⟩

/-- It answers a number and whether it was there. -/
def LastIs (w : World) (y : Int) (b : Bool) (e : Ending) (w' : World) : Prop := e = .returned (.tuple #[.int .i64 y, .bool b]) ∧ w = w'

theorem last_some (ao ao2 : Option Addr) (nl c ml c2 n : Nat) (ss : List ByteArray) (zs : List Int) (hnl : ss.length = nl) (hml : zs.length = ml) (h1 : n ≤ nl) (h2 : n ≤ ml) (hsmall : n ≤ 1048576) (s : ByteArray) (w : World) (hv : View w ao ss) (hi : IView w ao2 zs) (y : Int) (hy : lastI ss zs n s.toList = some y) :
    Calls Trym.prog 12 #[.slice ao nl c, .slice ao2 ml c2, .int .i64 (n : Int), .string s] w (LastIs w y true) := by
  have h := last_any ao ao2 nl c ml c2 n ss zs hnl hml h1 h2 hsmall s w hv hi
  rw [hy] at h
  exact h
theorem last_none (ao ao2 : Option Addr) (nl c ml c2 n : Nat) (ss : List ByteArray) (zs : List Int) (hnl : ss.length = nl) (hml : zs.length = ml) (h1 : n ≤ nl) (h2 : n ≤ ml) (hsmall : n ≤ 1048576) (s : ByteArray) (w : World) (hv : View w ao ss) (hi : IView w ao2 zs) (hy : lastI ss zs n s.toList = none) :
    Calls Trym.prog 12 #[.slice ao nl c, .slice ao2 ml c2, .int .i64 (n : Int), .string s] w (LastIs w 0 false) := by
  have h := last_any ao ao2 nl c ml c2 n ss zs hnl hml h1 h2 hsmall s w hv hi
  rw [hy] at h
  exact h

/-- 'v, ok := m[k]' where it is there. -/
theorem MapIs.look_some {w : World} {b n sz : Nat} {M : PM} (h : MapIs w b n M sz) (s : ByteArray) (hs : s.size ≤ maxLen) {y : Int} (hy : M s.toList = some y) :
    (Instr.lookup 29 (.map (some b)) (.string s) true).run Trym.prog w = .ok (.tuple #[.int .i64 y, .bool true]) w := by
  have := h.look s hs
  rw [hy] at this
  exact this

theorem setF_some {M : PM} {k : List UInt8} {v x : Int} (h : M k = some x) : setF M k v = M := by unfold setF; rw [h]; rfl
theorem setF_none {M : PM} {k : List UInt8} {v : Int} (h : M k = none) : setF M k v = upd M k v := by unfold setF; rw [h]; rfl
theorem upd_same (M : PM) (k : List UInt8) (v : Int) : upd M k v k = some v := by unfold upd; rw [if_pos rfl]
theorem upd_other (M : PM) {k s : List UInt8} (v : Int) (h : ¬ k = s) : upd M k v s = M s := by unfold upd; rw [if_neg h]

/-- setFirst where the key is there. -/
theorem zzset_some (b n : Nat) (M : PM) (sz : Nat) (s : ByteArray) (hs : s.size ≤ maxLen) (v : Int) (hv : (Lit.int .i64 v).wf = true) (hn : n < maxLen) (w : World) (h : MapIs w b n M sz) {x : Int} (hx : M s.toList = some x) :
    Calls Trym.prog 11 #[.map (some b), .string s, .int .i64 v] w fun e w' => e = .returned (.tuple #[]) ∧ MapIs w' b (n + 1) M sz ∧ w.grownBy w' (some b) := by
  refine (zzset_any b n M sz s hs v hv hn w h).mono ?_
  rintro e w' ⟨h1, h2, h3⟩
  rw [setF_some hx, hx] at h2
  exact ⟨h1, h2, h3⟩
/-- .. where it is not. -/
theorem zzset_none (b n : Nat) (M : PM) (sz : Nat) (s : ByteArray) (hs : s.size ≤ maxLen) (v : Int) (hv : (Lit.int .i64 v).wf = true) (hn : n < maxLen) (w : World) (h : MapIs w b n M sz) (hx : M s.toList = none) :
    Calls Trym.prog 11 #[.map (some b), .string s, .int .i64 v] w fun e w' => e = .returned (.tuple #[]) ∧ MapIs w' b (n + 1) (upd M s.toList v) (sz + 1) ∧ w.grownBy w' (some b) := by
  refine (zzset_any b n M sz s hs v hv hn w h).mono ?_
  rintro e w' ⟨h1, h2, h3⟩
  rw [setF_none hx, hx] at h2
  exact ⟨h1, h2, h3⟩

end Go.Proofs.Qxb6608727aMods
