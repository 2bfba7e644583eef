import Derived.Test.Qxb6608727aModsSmall
import Derived.RegionTactic
import Derived.ChangeAlike
namespace Go.Proofs.Qxb6608727aMods
open Go.RowKit
set_option linter.unusedVariables false

/-- All strings are strings, all ints are ints. -/
def AllS (ss : List ByteArray) : Prop := ∀ k, k < ss.length → (ss.getD k ByteArray.empty).size ≤ maxLen
def AllI (zs : List Int) : Prop := ∀ k, k < zs.length → (Lit.int .i64 (zs.getD k 0)).wf = true

def PlacesP (w : World) (n : Nat) (M : PM) (e : Ending) (w' : World) : Prop :=
  ∃ sz : Nat, e = .returned (.map (some w.heap.size)) ∧ MapIs w' w.heap.size n M sz ∧ Below w.heap.size w w'

set_option maxHeartbeats 1000000 in
theorem places_any (ao ao2 : Option Addr) (nl c ml c2 n : Nat) (ss : List ByteArray) (zs : List Int) (hnl : ss.length = nl) (hml : zs.length = ml) (h1 : n ≤ nl) (h2 : n ≤ ml) (hsmall : n ≤ 1048576) (hS : AllS ss) (hZ : AllI zs) (w : World) (hv : View w ao ss) (hi : IView w ao2 zs) :
    Calls Trym.prog 10 #[.slice ao nl c, .slice ao2 ml c2, .int .i64 (n : Int)] w (PlacesP w n (lastI ss zs n)) := by
  have HNL : Hid (ss.length = nl) := hnl
  have HML : Hid (zs.length = ml) := hml
  have HV : Hid (View w ao ss) := hv
  have HI : Hid (IView w ao2 zs) := hi
  have HS : Hid (AllS ss) := hS
  have HZ : Hid (AllI zs) := hZ
  clear hnl hml hv hi hS hZ
  have hmm := @run_makeMap Trym.prog
  go_enter Trym.func10, Trym.ntmps10
  go_wp2
  go_loopw [8] (fun i wr => ∃ k sz : Nat, k ≤ n ∧ i = .int .i64 k ∧ MapIs wr w.heap.size k (lastI ss zs k) sz ∧ Below w.heap.size w wr) (fun i _ => n - (intOf i).toNat)
  case atStart => exact ⟨0, 0, Nat.zero_le _, rfl, MapIs.made w, (Below.refl _ _).alloc (Nat.le_refl _) _⟩
  case round =>
    obtain ⟨k, sz, hk, rfl, hm, hbl⟩ := hrel
    clear hmm
    by_cases hlt : k < n
    · obtain ⟨b, o, hb, hix, hcell⟩ := (HV.out.below hbl).get HNL.out (k := k) (by omega) c
      obtain ⟨b2, o2, hb2, hix2, hcell2⟩ := (HI.out.below hbl).get HML.out (k := k) (by omega) c2
      have hts := HS.out k (by rw [HNL.out]; omega)
      have hvs := HZ.out k (by rw [HML.out]; omega)
      obtain ⟨t, ht⟩ : ∃ t, t = ss.getD k ByteArray.empty := ⟨_, rfl⟩
      obtain ⟨v, hv⟩ : ∃ v, v = zs.getD k 0 := ⟨_, rfl⟩
      rw [← ht] at hcell hts
      rw [← hv] at hcell2 hvs
      obtain ⟨w1, hst, hmap, hg⟩ := hm.drew.store (by unfold maxLen; omega) t hts v hvs
      have HM : Hid (∃ sz', MapIs w1 w.heap.size (k + 1) (lastI ss zs (k + 1)) sz') := ⟨_, by
        rw [lastI]
        have e1 : kAt ss k = t.toList := by rw [ht]; rfl
        have e2 : vAt zs k = v := by rw [hv]; rfl
        rw [e1, e2]; exact hmap⟩
      have HB : Hid (Below w.heap.size w w1) := hbl.drew.grown hg hbl.size (fun j hj => by cases hj; exact Nat.le_refl _)
      clear ht hv hmap hg hm hbl hts hvs
      go_wp2
      go_region
      all_goals
        go_wp2
        go_roundw
        case rel =>
          obtain ⟨sz', hm'⟩ := HM.out
          exact ⟨k + 1, sz', by omega, by go_num, hm', HB.out⟩
        case measure => simp [intOf]; omega
    · obtain rfl : k = n := by omega
      go_wp2
      go_ret
      exact ⟨sz, rfl, hm, hbl⟩
end Go.Proofs.Qxb6608727aMods
