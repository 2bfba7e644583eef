import Derived.Test.Qxb6608727aModsLaw3Steps
import Derived.Deep.RegionWith
namespace Go.Proofs.Qxb6608727aMods
open Go.RowKit
set_option linter.unusedVariables false

theorem map_step {M : PM} {ks : List ByteArray} {vs : List Int} {w1 : World} {g q j s0 : Nat} {t : List UInt8} {v : Int} (h : MapIs w1 g (q + j + 1) (setF (sfF M ks vs j) t v) (if (sfF M ks vs j t).isSome then szF M ks vs s0 j else szF M ks vs s0 j + 1)) (hk : kAt ks j = t) (hv : vAt vs j = v) :
    MapIs w1 g (q + (j + 1)) (sfF M ks vs (j + 1)) (szF M ks vs s0 (j + 1)) := by
  rw [sfF, szF, hk, hv]
  exact h

set_option maxRecDepth 100000 in
set_option maxHeartbeats 8000000 in
theorem law3_any (ao ao2 ao3 ao4 : Option Addr) (n c m c2 n3 c3 m4 c4 : Nat) (ss : List ByteArray) (zs : List Int) (kk : List ByteArray) (yy : List Int) (hn : ss.length = n) (hm : zs.length = m) (hn3 : kk.length = n3) (hm4 : yy.length = m4)
    (hS : AllS ss) (hZ : AllI zs) (hK : AllS kk) (hY : AllI yy) (hmm : m ≤ maxLen) (hmm4 : m4 ≤ maxLen)
    (w : World) (hv : View w ao ss) (hiv : IView w ao2 zs) (hv3 : View w ao3 kk) (hiv4 : IView w ao4 yy) :
    Calls Trym.prog 3 #[.slice ao n c, .slice ao2 m c2, .slice ao3 n3 c3, .slice ao4 m4 c4] w (SaysTrue w) := by
  have HN : Hid (ss.length = n) := hn
  have HM : Hid (zs.length = m) := hm
  have HN3 : Hid (kk.length = n3) := hn3
  have HM4 : Hid (yy.length = m4) := hm4
  have HS : Hid (AllS ss) := hS
  have HZ : Hid (AllI zs) := hZ
  have HK : Hid (AllS kk) := hK
  have HY : Hid (AllI yy) := hY
  have HV : Hid (View w ao ss) := hv
  have HI : Hid (IView w ao2 zs) := hiv
  have HV3 : Hid (View w ao3 kk) := hv3
  have HI4 : Hid (IView w ao4 yy) := hiv4
  have HMM : Hid (m ≤ maxLen) := hmm
  have HMM4 : Hid (m4 ≤ maxLen) := hmm4
  clear hn hm hn3 hm4 hS hZ hK hY hv hiv hv3 hiv4
  unfold maxLen at hmm hmm4
  go_enter Trym.func3, Trym.ntmps3
  go_wp2_with fail
  refine (bytes5_any ao ao2 ao3 ao4 n c m c2 n3 c3 m4 c4 ss kk HN.out HN3.out HMM.out HMM4.out w HV.out HV3.out).mono ?_
  rintro e w1 ⟨r, rfl, rfl, hlim⟩
  cases r
  · go_wp2
    go_ret
    exact ⟨rfl, Below.refl _ _⟩
  obtain ⟨hn20, hk20⟩ := hlim rfl
  clear hlim
  by_cases hm17 : 131072 < m
  · go_wp2
    go_ret
    exact ⟨rfl, Below.refl _ _⟩
  by_cases hm417 : 131072 < m4
  · go_wp2
    go_ret
    exact ⟨rfl, Below.refl _ _⟩
  have hd1 : decide ((131072 : Int) < (m : Int)) = false := decide_eq_false (by omega)
  have hd2 : decide ((131072 : Int) < (m4 : Int)) = false := decide_eq_false (by omega)
  go_wp2_with fail
  refine (total_any ao n c ss HN.out _ hn20 w HV.out).mono ?_
  rintro e w1 ⟨z0, rfl, rfl⟩
  go_wp2_with fail
  refine (total_any ao3 n3 c3 kk HN3.out _ hk20 w HV3.out).mono ?_
  rintro e w1 ⟨z, rfl, rfl⟩
  by_cases hz : 1048576 < z
  · go_wp2
    go_ret
    exact ⟨rfl, Below.refl _ _⟩
  have hd3 : decide ((1048576 : Int) < z) = false := decide_eq_false hz
  go_wp2_with fail
  refine (clone_any ao n c ss HN.out hn20 w HV.out).mono ?_
  rintro e W1 ⟨a1, c1, rfl, hv1, hb1⟩
  have HV1 : Hid (View W1 a1 ss) := hv1
  have HI1 : Hid (IView W1 ao2 zs) := HI.out.below hb1
  have HVK1 : Hid (View W1 ao3 kk) := HV3.out.below hb1
  have HIY1 : Hid (IView W1 ao4 yy) := HI4.out.below hb1
  have HB1 : Hid (Below w.heap.size w W1) := hb1
  clear HV HI HV3 HI4 hv1 hb1
  go_wp2_with fail
  refine (iclone_any ao2 m c2 zs HM.out (by omega) W1 HI1.out).mono ?_
  rintro e W2 ⟨a2, c2', rfl, hi2, hb2⟩
  have HV2 : Hid (View W2 a1 ss) := HV1.out.below hb2
  have HI2 : Hid (IView W2 a2 zs) := hi2
  have HVK2 : Hid (View W2 ao3 kk) := HVK1.out.below hb2
  have HIY2 : Hid (IView W2 ao4 yy) := HIY1.out.below hb2
  have HB2 : Hid (Below w.heap.size w W2) := HB1.out.trans (hb2.mono HB1.out.size)
  clear HV1 HI1 HVK1 HIY1 HB1 hi2 hb2
  go_wp2_with fail
  refine (clone_any ao3 n3 c3 kk HN3.out hk20 W2 HVK2.out).mono ?_
  rintro e W3 ⟨a3, c3', rfl, hv3, hb3⟩
  have HVa : Hid (View W3 a1 ss) := HV2.out.below hb3
  have HIa : Hid (IView W3 a2 zs) := HI2.out.below hb3
  have HVKa : Hid (View W3 a3 kk) := hv3
  have HIYa : Hid (IView W3 ao4 yy) := HIY2.out.below hb3
  have HBa : Hid (Below w.heap.size w W3) := HB2.out.trans (hb3.mono HB2.out.size)
  clear HV2 HI2 HVK2 HIY2 HB2 hv3 hb3
  go_wp2_with fail
  refine (iclone_any ao4 m4 c4 yy HM4.out (by omega) W3 HIYa.out).mono ?_
  rintro e W4 ⟨a4, c4', rfl, hi4, hb4⟩
  have HV4 : Hid (View W4 a1 ss) := HVa.out.below hb4
  have HI4 : Hid (IView W4 a2 zs) := HIa.out.below hb4
  have HVK4 : Hid (View W4 a3 kk) := HVKa.out.below hb4
  have HIY4 : Hid (IView W4 a4 yy) := hi4
  have HB4 : Hid (Below w.heap.size w W4) := HBa.out.trans (hb4.mono HBa.out.size)
  clear HVa HIa HVKa HIYa HBa hi4 hb4
  go_wp2_with fail
  refine (min_any n m W4).mono ?_
  rintro e w1 ⟨rfl, rfl⟩
  obtain ⟨q, hq⟩ : ∃ q, q = min n m := ⟨_, rfl⟩
  have hqn : q ≤ n := by omega
  have hqm : q ≤ m := by omega
  rw [← hq]
  clear hq
  go_wp2_with fail
  refine (min_any n3 m4 W4).mono ?_
  rintro e w1 ⟨rfl, rfl⟩
  obtain ⟨q1, hq1⟩ : ∃ q1, q1 = min n3 m4 := ⟨_, rfl⟩
  have hqn1 : q1 ≤ n3 := by omega
  have hqm1 : q1 ≤ m4 := by omega
  rw [← hq1]
  clear hq1
  go_wp2_with fail
  refine (places_any a1 a2 n c1 m c2' q ss zs HN.out HM.out hqn hqm (by omega) HS.out HZ.out W4 HV4.out HI4.out).mono ?_
  rintro e W5 ⟨sz, rfl, hmap, hb5⟩
  obtain ⟨g, hg⟩ : ∃ g, g = W4.heap.size := ⟨_, rfl⟩
  rw [← hg] at hmap ⊢
  have hsz := hmap.size_le
  have HG : Hid (g = W4.heap.size) := hg
  have HB5 : Hid (Below W4.heap.size W4 W5) := hb5
  have HMAP : Hid (MapIs W5 g q (lastI ss zs q) sz) := hmap
  have hlen := fun ty => hmap.len ty
  clear hmap hb5 hg
  go_wp2
  clear hlen
  go_loopw [13] (fun i wr => ∃ j : Nat, j ≤ q1 ∧ i = .int .i64 j ∧ MapIs wr g (q + j) (sfF (lastI ss zs q) kk yy j) (szF (lastI ss zs q) kk yy sz j) ∧ Below W4.heap.size W4 wr) (fun i _ => q1 - (intOf i).toNat)
  case atStart => exact ⟨0, Nat.zero_le _, rfl, HMAP.out, HB5.out⟩
  case round =>
    obtain ⟨j, hj, rfl, hmj, hbj⟩ := hrel
    by_cases hlt : j < q1
    · obtain ⟨b, o, hb, hix, hcell⟩ := (HVK4.out.below hbj).get HN3.out (k := j) (by omega) c3'
      obtain ⟨b2, o2, hb2, hix2, hcell2⟩ := (HIY4.out.below hbj).get HM4.out (k := j) (by omega) c4'
      have hts := HK.out j (by rw [HN3.out]; omega)
      have hvs := HY.out j (by rw [HM4.out]; omega)
      obtain ⟨t, ht⟩ : ∃ t, t = kk.getD j ByteArray.empty := ⟨_, rfl⟩
      obtain ⟨v, hv⟩ : ∃ v, v = yy.getD j 0 := ⟨_, rfl⟩
      rw [← ht] at hcell hts
      rw [← hv] at hcell2 hvs
      have HMJ : Hid (MapIs wr g (q + j) (sfF (lastI ss zs q) kk yy j) (szF (lastI ss zs q) kk yy sz j)) := hmj
      have HTS : Hid (t.size ≤ maxLen) := hts
      have HVS : Hid ((Lit.int .i64 v).wf = true) := hvs
      have HT : Hid (kAt kk j = t.toList) := by show kAt kk j = t.toList; rw [ht]; rfl
      have HVV : Hid (vAt yy j = v) := by show vAt yy j = v; rw [hv]; rfl
      have HBJ : Hid (Below W4.heap.size W4 wr) := hbj
      clear ht hv hts hvs hmj hbj
      go_wp2
      go_region_with (go_at_call 11; refine (zzset_any g (q + j) (sfF (lastI ss zs q) kk yy j) (szF (lastI ss zs q) kk yy sz j) t HTS.out v HVS.out (by unfold maxLen; omega) _ ?_).mono ?_; exact HMJ.out.drew; rintro e w1 ⟨rfl, hmap', hg'⟩)
      all_goals
        have hm' := map_step hmap' HT.out HVV.out
        have hb' := HBJ.out.drew.grown hg' HBJ.out.size (fun k hk => by cases hk; rw [HG.out]; exact Nat.le_refl _)
        have HM' : Hid (MapIs w1 g (q + (j + 1)) (sfF (lastI ss zs q) kk yy (j + 1)) (szF (lastI ss zs q) kk yy sz (j + 1))) := hm'
        have HB' : Hid (Below W4.heap.size W4 w1) := hb'
        clear hm' hb' hmap' hg' HMJ HBJ HT HVV
        go_wp2
        go_roundw
        case rel => exact ⟨j + 1, by omega, by go_num, HM'.out, HB'.out⟩
        case measure => simp [intOf]; omega
    · obtain rfl : j = q1 := by omega
      have HM6 : Hid (MapIs wr g (q + j) (sfF (lastI ss zs q) kk yy j) (szF (lastI ss zs q) kk yy sz j)) := hmj
      have HV6 : Hid (View wr a1 ss) := HV4.out.below hbj
      have HI6 : Hid (IView wr a2 zs) := HI4.out.below hbj
      have HVK6 : Hid (View wr a3 kk) := HVK4.out.below hbj
      have HIY6 : Hid (IView wr a4 yy) := HIY4.out.below hbj
      have HBW : Hid (Below w.heap.size w wr) := HB4.out.trans (hbj.mono HB4.out.size)
      clear hmj hbj HV4 HI4 HVK4 HIY4 HB4 HB5 HMAP
      go_wp2
      go_loop [14, 15] (fun va vj => ∃ p a : Nat, p ≤ j ∧ a ≤ p ∧ vj = .int .i64 p ∧ va = .int .i64 a ∧ sz + a = szF (lastI ss zs q) kk yy sz p) (fun _ vj => j - (intOf vj).toNat)
      case atStart => exact ⟨0, 0, Nat.zero_le _, Nat.le_refl _, rfl, rfl, rfl⟩
      case round =>
        obtain ⟨p, a, hp, hap, rfl, rfl, ha⟩ := hrel
        have HA : Hid (sz + a = szF (lastI ss zs q) kk yy sz p) := ha
        clear ha
        by_cases hlp : p < j
        · obtain ⟨b, o, hb, hix, hcell⟩ := HVK6.out.get HN3.out (k := p) (by omega) c3'
          have hts := HK.out p (by rw [HN3.out]; omega)
          obtain ⟨t, ht⟩ : ∃ t, t = kk.getD p ByteArray.empty := ⟨_, rfl⟩
          rw [← ht] at hcell hts
          have HTS : Hid (t.size ≤ maxLen) := hts
          have HT : Hid (kAt kk p = t.toList) := by show kAt kk p = t.toList; rw [ht]; rfl
          clear ht hts
          cases hM0 : lastI ss zs q t.toList with
          | some x =>
            have HX : Hid (lastI ss zs q t.toList = some x) := hM0
            have hlk := HM6.out.look_some t HTS.out (sfF_old hM0 j)
            have HA' : Hid (sz + a = szF (lastI ss zs q) kk yy sz (p + 1)) := HA.out.trans (szF_same (x := x) (by rw [HT.out]; exact sfF_old hM0 p)).symm
            clear hM0
            go_wp2_with fail
            refine (last_some a1 a2 n c1 m c2' q ss zs HN.out HM.out hqn hqm (by omega) t wr HV6.out HI6.out x HX.out).mono ?_
            rintro e w1 ⟨rfl, rfl⟩
            go_wp2
            go_round
            case rel => exact ⟨p + 1, a, by omega, by omega, by go_num, rfl, HA'.out⟩
            case measure => simp [intOf]; omega
          | none =>
            have HX : Hid (lastI ss zs q t.toList = none) := hM0
            clear hM0
            go_wp2_with fail
            refine (last_none a1 a2 n c1 m c2' q ss zs HN.out HM.out hqn hqm (by omega) t wr HV6.out HI6.out HX.out).mono ?_
            rintro e w1 ⟨rfl, rfl⟩
            go_wp2_with fail
            refine (first_any a3 n3 c3' j kk HN3.out hqn1 (by omega) t wr HVK6.out p hlp HT.out).mono ?_
            rintro e w1 ⟨f, hf, rfl, rfl, hfirst⟩
            have hfp : f ≤ p := first_le hfirst HT.out
            have hlk := HM6.out.look_some t HTS.out (sfF_first HX.out hfirst j (by omega))
            obtain ⟨b2, o2, hb2, hix2, hcell2⟩ := HIY6.out.get HM4.out (k := f) (by omega) c4'
            have hcell2' : wr.cell? ⟨b2, o2, none⟩ = some (.int .i64 (vAt yy f)) := hcell2
            clear hcell2
            generalize vAt yy f = y at hlk hcell2'
            by_cases hfe : f = p
            · have HA' : Hid (sz + (a + 1) = szF (lastI ss zs q) kk yy sz (p + 1)) := by
                show sz + (a + 1) = szF (lastI ss zs q) kk yy sz (p + 1)
                rw [szF_more (by rw [HT.out]; exact sfF_none HX.out p (by rw [← hfe]; exact hfirst.2)), ← HA.out]; omega
              subst hfe
              clear hfirst
              go_wp2
              go_round
              case rel => exact ⟨f + 1, a + 1, by omega, by omega, by go_num, by go_num, HA'.out⟩
              case measure => simp [intOf]; omega
            · have HA' : Hid (sz + a = szF (lastI ss zs q) kk yy sz (p + 1)) := by
                show sz + a = szF (lastI ss zs q) kk yy sz (p + 1)
                rw [szF_same (by rw [HT.out]; exact sfF_first HX.out hfirst p (by omega)), ← HA.out]
              have hfne : ((f : Int) == (p : Int)) = false := beq_eq_false_iff_ne.2 (by omega)
              clear hfirst hfe
              go_wp2
              go_round
              case rel => exact ⟨p + 1, a, by omega, by omega, by go_num, rfl, HA'.out⟩
              case measure => simp [intOf]; omega
        · obtain rfl : p = j := by omega
          have hlen6 : ∀ ty : TypeId, (Builtin.len_ #[29] ty #[.map (some g)]).run Trym.prog wr = .ok (.int .i64 ((sz : Int) + (a : Int))) wr := fun ty => by
            rw [HM6.out.len ty, ← HA.out]; simp
          go_wp2
          go_loop [21] (fun vk => ∃ k : Nat, k ≤ q ∧ vk = .int .i64 k) (fun vk => q - (intOf vk).toNat)
          case atStart => exact ⟨0, Nat.zero_le _, rfl⟩
          case round =>
            obtain ⟨k, hk, rfl⟩ := hrel
            by_cases hlk : k < q
            · obtain ⟨b, o, hb, hix, hcell⟩ := HV6.out.get HN.out (k := k) (by omega) c1
              have hts := HS.out k (by rw [HN.out]; omega)
              obtain ⟨y, hy⟩ := lastI_some (ks := ss) (vs := zs) hlk
              obtain ⟨t, ht⟩ : ∃ t, t = ss.getD k ByteArray.empty := ⟨_, rfl⟩
              have hkt : kAt ss k = t.toList := by rw [ht]; rfl
              rw [← ht] at hcell hts
              rw [hkt] at hy
              have hlook := HM6.out.look_some t hts (sfF_old hy p)
              have HY' : Hid (lastI ss zs q t.toList = some y) := hy
              clear ht hkt hy hts
              go_wp2_with fail
              refine (last_some a1 a2 n c1 m c2' q ss zs HN.out HM.out hqn hqm (by omega) t wr HV6.out HI6.out y HY'.out).mono ?_
              rintro e w1 ⟨rfl, rfl⟩
              go_wp2
              go_round
              case rel => exact ⟨k + 1, by omega, by go_num⟩
              case measure => simp [intOf]; omega
            · go_wp2
              go_ret
              exact ⟨rfl, HBW.out⟩
end Go.Proofs.Qxb6608727aMods
