import Derived.Test.Qxb6608727aModsPlaces
namespace Go.Proofs.Qxb6608727aMods
open Go.RowKit
set_option linter.unusedVariables false

theorem lastI_some {ks : List ByteArray} {vs : List Int} {n k : Nat} (hk : k < n) : ∃ y, lastI ks vs n (kAt ks k) = some y := by
  induction n with
  | zero => omega
  | succ n ih =>
    by_cases e : kAt ks n = kAt ks k
    · exact ⟨_, lastI_hit e⟩
    · by_cases h : k = n
      · rw [h] at e; exact absurd rfl e
      · obtain ⟨y, hy⟩ := ih (by omega)
        exact ⟨y, (lastI_miss e).trans hy⟩

/-- It answers a number and whether it was there. -/
def LastIs (w : World) (y : Int) (b : Bool) (e : Ending) (w' : World) : Prop := e = .returned (.tuple #[.int .i64 y, .bool b]) ∧ w = w'

theorem last_some (ao ao2 : Option Addr) (nl c ml c2 n : Nat) (ss : List ByteArray) (zs : List Int) (hnl : ss.length = nl) (hml : zs.length = ml) (h1 : n ≤ nl) (h2 : n ≤ ml) (hsmall : n ≤ 1048576) (s : ByteArray) (w : World) (hv : View w ao ss) (hi : IView w ao2 zs) (y : Int) (hy : lastI ss zs n s.toList = some y) :
    Calls Trym.prog 12 #[.slice ao nl c, .slice ao2 ml c2, .int .i64 (n : Int), .string s] w (LastIs w y true) := by
  have h := last_any ao ao2 nl c ml c2 n ss zs hnl hml h1 h2 hsmall s w hv hi
  rw [hy] at h
  exact h
theorem last_none (ao ao2 : Option Addr) (nl c ml c2 n : Nat) (ss : List ByteArray) (zs : List Int) (hnl : ss.length = nl) (hml : zs.length = ml) (h1 : n ≤ nl) (h2 : n ≤ ml) (hsmall : n ≤ 1048576) (s : ByteArray) (w : World) (hv : View w ao ss) (hi : IView w ao2 zs) (hy : lastI ss zs n s.toList = none) :
    Calls Trym.prog 12 #[.slice ao nl c, .slice ao2 ml c2, .int .i64 (n : Int), .string s] w (LastIs w 0 false) := by
  have h := last_any ao ao2 nl c ml c2 n ss zs hnl hml h1 h2 hsmall s w hv hi
  rw [hy] at h
  exact h

/-- 'v, ok := m[k]' where it is there. -/
theorem MapIs.look_some {w : World} {b n sz : Nat} {M : PM} (h : MapIs w b n M sz) (s : ByteArray) (hs : s.size ≤ maxLen) {y : Int} (hy : M s.toList = some y) :
    (Instr.lookup 29 (.map (some b)) (.string s) true).run Trym.prog w = .ok (.tuple #[.int .i64 y, .bool true]) w := by
  have := h.look s hs
  rw [hy] at this
  exact this

theorem setF_some {M : PM} {k : List UInt8} {v x : Int} (h : M k = some x) : setF M k v = M := by unfold setF; rw [h]; rfl
theorem setF_none {M : PM} {k : List UInt8} {v : Int} (h : M k = none) : setF M k v = upd M k v := by unfold setF; rw [h]; rfl
theorem upd_same (M : PM) (k : List UInt8) (v : Int) : upd M k v k = some v := by unfold upd; rw [if_pos rfl]
theorem upd_other (M : PM) {k s : List UInt8} (v : Int) (h : ¬ k = s) : upd M k v s = M s := by unfold upd; rw [if_neg h]

/-- setFirst where the key is there. -/
theorem zzset_some (b n : Nat) (M : PM) (sz : Nat) (s : ByteArray) (hs : s.size ≤ maxLen) (v : Int) (hv : (Lit.int .i64 v).wf = true) (hn : n < maxLen) (w : World) (h : MapIs w b n M sz) {x : Int} (hx : M s.toList = some x) :
    Calls Trym.prog 11 #[.map (some b), .string s, .int .i64 v] w fun e w' => e = .returned (.tuple #[]) ∧ MapIs w' b (n + 1) M sz ∧ w.grownBy w' (some b) := by
  refine (zzset_any b n M sz s hs v hv hn w h).mono ?_
  rintro e w' ⟨h1, h2, h3⟩
  rw [setF_some hx, hx] at h2
  exact ⟨h1, h2, h3⟩
/-- .. where it is not. -/
theorem zzset_none (b n : Nat) (M : PM) (sz : Nat) (s : ByteArray) (hs : s.size ≤ maxLen) (v : Int) (hv : (Lit.int .i64 v).wf = true) (hn : n < maxLen) (w : World) (h : MapIs w b n M sz) (hx : M s.toList = none) :
    Calls Trym.prog 11 #[.map (some b), .string s, .int .i64 v] w fun e w' => e = .returned (.tuple #[]) ∧ MapIs w' b (n + 1) (upd M s.toList v) (sz + 1) ∧ w.grownBy w' (some b) := by
  refine (zzset_any b n M sz s hs v hv hn w h).mono ?_
  rintro e w' ⟨h1, h2, h3⟩
  rw [setF_none hx, hx] at h2
  exact ⟨h1, h2, h3⟩

set_option maxRecDepth 100000 in
set_option maxHeartbeats 4000000 in
theorem law4_had (ao ao2 : Option Addr) (n c m c2 : Nat) (ss : List ByteArray) (zs : List Int) (hn : ss.length = n) (hm : zs.length = m) (hS : AllS ss) (hZ : AllI zs) (key : ByteArray) (hkey : key.size ≤ maxLen) (i j : Int) (hi : (Lit.int .i64 i).wf = true) (hj : (Lit.int .i64 j).wf = true) (hmm : m ≤ maxLen)
    (w : World) (hv : View w ao ss) (hiv : IView w ao2 zs) (x : Int) (hx : lastI ss zs (min n m) key.toList = some x) : Calls Trym.prog 4 #[.slice ao n c, .slice ao2 m c2, .string key, .int .i64 i, .int .i64 j] w (SaysTrue w) := by
  have HN : Hid (ss.length = n) := hn
  have HM : Hid (zs.length = m) := hm
  have HS : Hid (AllS ss) := hS
  have HZ : Hid (AllI zs) := hZ
  have HV : Hid (View w ao ss) := hv
  have HI : Hid (IView w ao2 zs) := hiv
  have HK : Hid (key.size ≤ maxLen) := hkey
  have HX : Hid (lastI ss zs (min n m) key.toList = some x) := hx
  have HWI : Hid ((Lit.int .i64 i).wf = true) := hi
  have HWJ : Hid ((Lit.int .i64 j).wf = true) := hj
  have HMM : Hid (m ≤ maxLen) := hmm
  clear hn hm hS hZ hv hiv hx hi hj
  unfold maxLen at hkey hmm
  go_enter Trym.func4, Trym.ntmps4
  go_wp2_with fail
  refine (bytes14_any ao ao2 n c m c2 ss HN.out key HK.out HMM.out i j w HV.out).mono ?_
  rintro e w1 ⟨r, rfl, rfl, hlim⟩
  cases r
  · go_wp2
    go_ret
    exact ⟨rfl, Below.refl _ _⟩
  have hn20 : n ≤ 1048576 := hlim rfl
  clear hlim
  by_cases hm17 : 131072 < m
  · go_wp2
    go_ret
    exact ⟨rfl, Below.refl _ _⟩
  by_cases hks : 1048576 < key.size
  · go_wp2
    go_ret
    exact ⟨rfl, Below.refl _ _⟩
  have hd1 : decide ((131072 : Int) < (m : Int)) = false := decide_eq_false (by omega)
  have hd2 : decide ((1048576 : Int) < (key.size : Int)) = false := decide_eq_false (by omega)
  go_wp2_with fail
  refine (total_any ao n c ss HN.out _ hn20 w HV.out).mono ?_
  rintro e w1 ⟨z, rfl, rfl⟩
  by_cases hz : 1048576 < z
  · go_wp2
    go_ret
    exact ⟨rfl, Below.refl _ _⟩
  have hd3 : decide ((1048576 : Int) < z) = false := decide_eq_false hz
  go_wp2_with fail
  refine (clone_any ao n c ss HN.out hn20 w HV.out).mono ?_
  rintro e W1 ⟨a1, c1, rfl, hv1, hb1⟩
  have HV1 : Hid (View W1 a1 ss) := hv1
  have HI1 : Hid (IView W1 ao2 zs) := HI.out.below hb1
  have HB1 : Hid (Below w.heap.size w W1) := hb1
  clear HV HI hv1 hb1
  go_wp2_with fail
  refine (iclone_any ao2 m c2 zs HM.out (by omega) W1 HI1.out).mono ?_
  rintro e W2 ⟨a2, c2', rfl, hi2, hb2⟩
  have HV2 : Hid (View W2 a1 ss) := HV1.out.below hb2
  have HI2 : Hid (IView W2 a2 zs) := hi2
  have HB2 : Hid (Below w.heap.size w W2) := HB1.out.trans (hb2.mono HB1.out.size)
  clear HV1 HI1 HB1 hi2 hb2
  go_wp2_with fail
  refine (min_any n m W2).mono ?_
  rintro e w1 ⟨rfl, rfl⟩
  obtain ⟨q, hq⟩ : ∃ q, q = min n m := ⟨_, rfl⟩
  have hqn : q ≤ n := by omega
  have hqm : q ≤ m := by omega
  rw [← hq] at HX ⊢
  clear hq
  go_wp2_with fail
  refine (places_any a1 a2 n c1 m c2' q ss zs HN.out HM.out hqn hqm (by omega) HS.out HZ.out W2 HV2.out HI2.out).mono ?_
  rintro e W3 ⟨sz, rfl, hmap, hb3⟩
  obtain ⟨g, hg⟩ : ∃ g, g = W2.heap.size := ⟨_, rfl⟩
  rw [← hg] at hmap ⊢
  have hsz := hmap.size_le
  have HG : Hid (g = W2.heap.size) := hg
  have HB3 : Hid (Below W2.heap.size W2 W3) := hb3
  have HMAP : Hid (MapIs W3 g q (lastI ss zs q) sz) := hmap
  have hlen := fun ty => hmap.len ty
  clear hmap hb3 hg
  go_wp2_with fail
  refine (last_some a1 a2 n c1 m c2' q ss zs HN.out HM.out hqn hqm (by omega) key W3 (HV2.out.below HB3.out) (HI2.out.below HB3.out) x HX.out).mono ?_
  rintro e w1 ⟨rfl, rfl⟩
  clear hlen
  go_wp2_with fail
  refine (zzset_some g q (lastI ss zs q) sz key HK.out i HWI.out (by unfold maxLen; omega) W3 HMAP.out HX.out).mono ?_
  rintro e W4 ⟨rfl, hmap4, hg4⟩
  have HM4 : Hid (MapIs W4 g (q + 1) (lastI ss zs q) sz) := hmap4
  have HB4 : Hid (Below W2.heap.size W2 W4) := HB3.out.grown hg4 HB3.out.size (fun j hj => by cases hj; rw [HG.out]; exact Nat.le_refl _)
  have hlk4 := hmap4.look_some key HK.out HX.out
  clear hmap4 hg4 HB3 HMAP
  go_wp2_with fail
  refine (zzset_some g (q + 1) (lastI ss zs q) sz key HK.out j HWJ.out (by unfold maxLen; omega) W4 HM4.out HX.out).mono ?_
  rintro e W5 ⟨rfl, hmap5, hg5⟩
  have HM5 : Hid (MapIs W5 g (q + 1 + 1) (lastI ss zs q) sz) := hmap5
  have HB5 : Hid (Below W2.heap.size W2 W5) := HB4.out.grown hg5 HB4.out.size (fun j hj => by cases hj; rw [HG.out]; exact Nat.le_refl _)
  have hlk5 := hmap5.look_some key HK.out HX.out
  have hlen5 := fun ty => hmap5.len ty
  clear hmap5 hg5 HB4 HM4 hlk4
  have HV5 : Hid (View W5 a1 ss) := HV2.out.below HB5.out
  have HI5 : Hid (IView W5 a2 zs) := HI2.out.below HB5.out
  have HBW : Hid (Below w.heap.size w W5) := HB2.out.trans (HB5.out.mono HB2.out.size)
  clear HV2 HI2 HB2 HB5
  go_wp2
  clear hlk5 hlen5
  go_loop [22] (fun v => ∃ k : Nat, k ≤ q ∧ v = .int .i64 k) (fun v => q - (intOf v).toNat)
  case atStart => exact ⟨0, Nat.zero_le _, rfl⟩
  case round =>
    obtain ⟨k, hk, rfl⟩ := hrel
    by_cases hlt : k < q
    · obtain ⟨b, o, hb, hix, hcell⟩ := HV5.out.get HN.out (k := k) (by omega) c1
      have hts := HS.out k (by rw [HN.out]; omega)
      obtain ⟨y, hy⟩ := lastI_some (ks := ss) (vs := zs) hlt
      obtain ⟨t, ht⟩ : ∃ t, t = ss.getD k ByteArray.empty := ⟨_, rfl⟩
      have hkt : kAt ss k = t.toList := by rw [ht]; rfl
      rw [← ht] at hcell hts
      rw [hkt] at hy
      have HY : Hid (lastI ss zs q t.toList = some y) := hy
      have HTS : Hid (t.size ≤ maxLen) := hts
      clear ht hkt hy hts
      cases heq : (t.toList == key.toList)
      · have hne : ¬ key.toList = t.toList := fun h => by rw [h] at heq; simp at heq
        have hlk := HM5.out.look_some t HTS.out HY.out
        clear hne
        go_wp2_with fail
        refine (last_some a1 a2 n c1 m c2' q ss zs HN.out HM.out hqn hqm (by omega) t W5 HV5.out HI5.out y HY.out).mono ?_
        rintro e w1 ⟨rfl, rfl⟩
        go_wp2
        go_round
        case rel => exact ⟨k + 1, by omega, by go_num⟩
        case measure => simp [intOf]; omega
      · go_wp2
        go_round
        case rel => exact ⟨k + 1, by omega, by go_num⟩
        case measure => simp [intOf]; omega
    · go_wp2
      go_ret
      exact ⟨rfl, HBW.out⟩

set_option maxRecDepth 100000 in
set_option maxHeartbeats 4000000 in
theorem law4_new (ao ao2 : Option Addr) (n c m c2 : Nat) (ss : List ByteArray) (zs : List Int) (hn : ss.length = n) (hm : zs.length = m) (hS : AllS ss) (hZ : AllI zs) (key : ByteArray) (hkey : key.size ≤ maxLen) (i j : Int) (hi : (Lit.int .i64 i).wf = true) (hj : (Lit.int .i64 j).wf = true) (hmm : m ≤ maxLen)
    (w : World) (hv : View w ao ss) (hiv : IView w ao2 zs) (hx : lastI ss zs (min n m) key.toList = none) : Calls Trym.prog 4 #[.slice ao n c, .slice ao2 m c2, .string key, .int .i64 i, .int .i64 j] w (SaysTrue w) := by
  have HN : Hid (ss.length = n) := hn
  have HM : Hid (zs.length = m) := hm
  have HS : Hid (AllS ss) := hS
  have HZ : Hid (AllI zs) := hZ
  have HV : Hid (View w ao ss) := hv
  have HI : Hid (IView w ao2 zs) := hiv
  have HK : Hid (key.size ≤ maxLen) := hkey
  have HX : Hid (lastI ss zs (min n m) key.toList = none) := hx
  have HWI : Hid ((Lit.int .i64 i).wf = true) := hi
  have HWJ : Hid ((Lit.int .i64 j).wf = true) := hj
  have HMM : Hid (m ≤ maxLen) := hmm
  clear hn hm hS hZ hv hiv hx hi hj
  unfold maxLen at hkey hmm
  go_enter Trym.func4, Trym.ntmps4
  go_wp2_with fail
  refine (bytes14_any ao ao2 n c m c2 ss HN.out key HK.out HMM.out i j w HV.out).mono ?_
  rintro e w1 ⟨r, rfl, rfl, hlim⟩
  cases r
  · go_wp2
    go_ret
    exact ⟨rfl, Below.refl _ _⟩
  have hn20 : n ≤ 1048576 := hlim rfl
  clear hlim
  by_cases hm17 : 131072 < m
  · go_wp2
    go_ret
    exact ⟨rfl, Below.refl _ _⟩
  by_cases hks : 1048576 < key.size
  · go_wp2
    go_ret
    exact ⟨rfl, Below.refl _ _⟩
  have hd1 : decide ((131072 : Int) < (m : Int)) = false := decide_eq_false (by omega)
  have hd2 : decide ((1048576 : Int) < (key.size : Int)) = false := decide_eq_false (by omega)
  go_wp2_with fail
  refine (total_any ao n c ss HN.out _ hn20 w HV.out).mono ?_
  rintro e w1 ⟨z, rfl, rfl⟩
  by_cases hz : 1048576 < z
  · go_wp2
    go_ret
    exact ⟨rfl, Below.refl _ _⟩
  have hd3 : decide ((1048576 : Int) < z) = false := decide_eq_false hz
  go_wp2_with fail
  refine (clone_any ao n c ss HN.out hn20 w HV.out).mono ?_
  rintro e W1 ⟨a1, c1, rfl, hv1, hb1⟩
  have HV1 : Hid (View W1 a1 ss) := hv1
  have HI1 : Hid (IView W1 ao2 zs) := HI.out.below hb1
  have HB1 : Hid (Below w.heap.size w W1) := hb1
  clear HV HI hv1 hb1
  go_wp2_with fail
  refine (iclone_any ao2 m c2 zs HM.out (by omega) W1 HI1.out).mono ?_
  rintro e W2 ⟨a2, c2', rfl, hi2, hb2⟩
  have HV2 : Hid (View W2 a1 ss) := HV1.out.below hb2
  have HI2 : Hid (IView W2 a2 zs) := hi2
  have HB2 : Hid (Below w.heap.size w W2) := HB1.out.trans (hb2.mono HB1.out.size)
  clear HV1 HI1 HB1 hi2 hb2
  go_wp2_with fail
  refine (min_any n m W2).mono ?_
  rintro e w1 ⟨rfl, rfl⟩
  obtain ⟨q, hq⟩ : ∃ q, q = min n m := ⟨_, rfl⟩
  have hqn : q ≤ n := by omega
  have hqm : q ≤ m := by omega
  rw [← hq] at HX ⊢
  clear hq
  go_wp2_with fail
  refine (places_any a1 a2 n c1 m c2' q ss zs HN.out HM.out hqn hqm (by omega) HS.out HZ.out W2 HV2.out HI2.out).mono ?_
  rintro e W3 ⟨sz, rfl, hmap, hb3⟩
  obtain ⟨g, hg⟩ : ∃ g, g = W2.heap.size := ⟨_, rfl⟩
  rw [← hg] at hmap ⊢
  have hsz := hmap.size_le
  have HG : Hid (g = W2.heap.size) := hg
  have HB3 : Hid (Below W2.heap.size W2 W3) := hb3
  have HMAP : Hid (MapIs W3 g q (lastI ss zs q) sz) := hmap
  have hlen := fun ty => hmap.len ty
  clear hmap hb3 hg
  go_wp2_with fail
  refine (last_none a1 a2 n c1 m c2' q ss zs HN.out HM.out hqn hqm (by omega) key W3 (HV2.out.below HB3.out) (HI2.out.below HB3.out) HX.out).mono ?_
  rintro e w1 ⟨rfl, rfl⟩
  clear hlen
  go_wp2_with fail
  refine (zzset_none g q (lastI ss zs q) sz key HK.out i HWI.out (by unfold maxLen; omega) W3 HMAP.out HX.out).mono ?_
  rintro e W4 ⟨rfl, hmap4, hg4⟩
  have HM4 : Hid (MapIs W4 g (q + 1) (upd (lastI ss zs q) key.toList i) (sz + 1)) := hmap4
  have HB4 : Hid (Below W2.heap.size W2 W4) := HB3.out.grown hg4 HB3.out.size (fun j hj => by cases hj; rw [HG.out]; exact Nat.le_refl _)
  have hlk4 := hmap4.look_some key HK.out (upd_same _ _ _)
  clear hmap4 hg4 HB3 HMAP
  go_wp2_with fail
  refine (zzset_some g (q + 1) (upd (lastI ss zs q) key.toList i) (sz + 1) key HK.out j HWJ.out (by unfold maxLen; omega) W4 HM4.out (upd_same _ _ _)).mono ?_
  rintro e W5 ⟨rfl, hmap5, hg5⟩
  have HM5 : Hid (MapIs W5 g (q + 1 + 1) (upd (lastI ss zs q) key.toList i) (sz + 1)) := hmap5
  have HB5 : Hid (Below W2.heap.size W2 W5) := HB4.out.grown hg5 HB4.out.size (fun j hj => by cases hj; rw [HG.out]; exact Nat.le_refl _)
  have hlk5 := hmap5.look_some key HK.out (upd_same _ _ _)
  have hlen5 := fun ty => hmap5.len ty
  clear hmap5 hg5 HB4 HM4 hlk4
  have HV5 : Hid (View W5 a1 ss) := HV2.out.below HB5.out
  have HI5 : Hid (IView W5 a2 zs) := HI2.out.below HB5.out
  have HBW : Hid (Below w.heap.size w W5) := HB2.out.trans (HB5.out.mono HB2.out.size)
  clear HV2 HI2 HB2 HB5
  go_wp2
  clear hlk5 hlen5
  go_loop [22] (fun v => ∃ k : Nat, k ≤ q ∧ v = .int .i64 k) (fun v => q - (intOf v).toNat)
  case atStart => exact ⟨0, Nat.zero_le _, rfl⟩
  case round =>
    obtain ⟨k, hk, rfl⟩ := hrel
    by_cases hlt : k < q
    · obtain ⟨b, o, hb, hix, hcell⟩ := HV5.out.get HN.out (k := k) (by omega) c1
      have hts := HS.out k (by rw [HN.out]; omega)
      obtain ⟨y, hy⟩ := lastI_some (ks := ss) (vs := zs) hlt
      obtain ⟨t, ht⟩ : ∃ t, t = ss.getD k ByteArray.empty := ⟨_, rfl⟩
      have hkt : kAt ss k = t.toList := by rw [ht]; rfl
      rw [← ht] at hcell hts
      rw [hkt] at hy
      have HY : Hid (lastI ss zs q t.toList = some y) := hy
      have HTS : Hid (t.size ≤ maxLen) := hts
      clear ht hkt hy hts
      cases heq : (t.toList == key.toList)
      · have hne : ¬ key.toList = t.toList := fun h => by rw [h] at heq; simp at heq
        have hlk := HM5.out.look_some t HTS.out ((upd_other _ _ hne).trans HY.out)
        clear hne
        go_wp2_with fail
        refine (last_some a1 a2 n c1 m c2' q ss zs HN.out HM.out hqn hqm (by omega) t W5 HV5.out HI5.out y HY.out).mono ?_
        rintro e w1 ⟨rfl, rfl⟩
        go_wp2
        go_round
        case rel => exact ⟨k + 1, by omega, by go_num⟩
        case measure => simp [intOf]; omega
      · go_wp2
        go_round
        case rel => exact ⟨k + 1, by omega, by go_num⟩
        case measure => simp [intOf]; omega
    · go_wp2
      go_ret
      exact ⟨rfl, HBW.out⟩

theorem law4_any (ao ao2 : Option Addr) (n c m c2 : Nat) (ss : List ByteArray) (zs : List Int) (hn : ss.length = n) (hm : zs.length = m) (hS : AllS ss) (hZ : AllI zs) (key : ByteArray) (hkey : key.size ≤ maxLen) (i j : Int) (hi : (Lit.int .i64 i).wf = true) (hj : (Lit.int .i64 j).wf = true) (hmm : m ≤ maxLen)
    (w : World) (hv : View w ao ss) (hiv : IView w ao2 zs) : Calls Trym.prog 4 #[.slice ao n c, .slice ao2 m c2, .string key, .int .i64 i, .int .i64 j] w (SaysTrue w) := by
  cases h : lastI ss zs (min n m) key.toList with
  | none => exact law4_new ao ao2 n c m c2 ss zs hn hm hS hZ key hkey i j hi hj hmm w hv hiv h
  | some x => exact law4_had ao ao2 n c m c2 ss zs hn hm hS hZ key hkey i j hi hj hmm w hv hiv x h
end Go.Proofs.Qxb6608727aMods
