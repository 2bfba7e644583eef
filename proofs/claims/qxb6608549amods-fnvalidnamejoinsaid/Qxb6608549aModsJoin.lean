import Derived.Test.Qxb6608549aModsLetters
namespace Go.Proofs.Qxb6608549aMods
open Go.RowKit
set_option linter.unusedVariables false

theorem zzvalid_is (s : ByteArray) (r : Bool) (hr : vn s.data.toList = r) (hs : s.size ≤ maxLen) (w : World) : Calls Trym.prog 8 #[.string s] w (SaysQ w r) := by
  subst hr
  exact zzvalid_any s hs w

theorem data_app (a b : ByteArray) : (a ++ b).data.toList = a.data.toList ++ b.data.toList := by
  rw [ByteArray.data_append, Array.toList_append]
theorem size_app (a b : ByteArray) : (a ++ b).size = a.size + b.size := ByteArray.size_append

theorem size_data (a : ByteArray) : a.data.toList.length = a.size := by simp

/-- The letters of both, joined. -/
theorem vn_lt (a b : ByteArray) : vn (ltS a ++ ltS b).data.toList = decide (1 ≤ a.size + b.size ∧ a.size + b.size ≤ 128) := by
  rw [data_app, vn_letters _ (fun c hc => by
    rcases List.mem_append.1 hc with h | h
    · exact ltS_mem a c h
    · exact ltS_mem b c h), List.length_append, ltS_length, ltS_length]

theorem empty_size {a : ByteArray} (h : a.toList = []) : a.size = 0 := by
  rw [ByteArray.toList_eq] at h
  have := size_data a
  rw [h] at this
  simpa using this.symm
theorem empty_data {a : ByteArray} (h : a.toList = []) : a.data.toList = [] := by rwa [ByteArray.toList_eq] at h

/-- It answers true, and nothing old has turned. -/
def True_ (w : World) (e : Ending) (w' : World) : Prop := e = .returned (.bool true) ∧ Below w.heap.size w w'

theorem bel2 {w w1 w2 : World} (h1 : Below w.heap.size w w1) (h2 : Below w1.heap.size w1 w2) : Below w.heap.size w w2 := h1.trans (h2.mono h1.size)

/-- Over the limit. -/
theorem join_big (a b : ByteArray) (ha : a.size ≤ maxLen) (hb : b.size ≤ maxLen) (h : 1048576 < a.size + b.size) (w : World) : Calls Trym.prog 3 #[.string a, .string b] w (True_ w) := by
  unfold maxLen at ha hb
  by_cases h1 : 1048576 < a.size
  · go_enter Trym.func3, Trym.ntmps3
    go_wp2
    go_ret
    exact ⟨rfl, Below.refl _ _⟩
  · by_cases h2 : 1048576 < b.size
    · go_enter Trym.func3, Trym.ntmps3
      go_wp2
      go_ret
      exact ⟨rfl, Below.refl _ _⟩
    · go_enter Trym.func3, Trym.ntmps3
      go_wp2
      go_ret
      exact ⟨rfl, Below.refl _ _⟩

/-- zzBytes within the limit. -/
theorem bytes_ok (a b : ByteArray) (h : a.size + b.size ≤ 1048576) (w : World) : Calls Trym.prog 7 #[.string a, .string b] w (SaysQ w true) := by
  go_enter Trym.func7, Trym.ntmps7
  go_wp2
  go_ret
  exact ⟨rfl, rfl⟩

set_option maxHeartbeats 1000000 in
/-- a is empty. -/
theorem join_empty (a b : ByteArray) (ha : a.toList = []) (h : b.size ≤ 1048576) (w : World) : Calls Trym.prog 3 #[.string a, .string b] w (True_ w) := by
  have hz : a.size = 0 := empty_size ha
  have hz' : a.size ≤ 0 := by omega
  obtain ⟨r, hr⟩ : ∃ r, r = vn b.data.toList := ⟨_, rfl⟩
  have HJ : Hid (vn (a ++ b).data.toList = r) := by show vn (a ++ b).data.toList = r; rw [data_app, empty_data ha, hr]; rfl
  have HB : Hid (vn b.data.toList = r) := hr.symm
  have HL : Hid (vn (ltS a ++ ltS b).data.toList = decide (1 ≤ a.size + b.size ∧ a.size + b.size ≤ 128)) := vn_lt a b
  have s1 : (a ++ b).size ≤ maxLen := by rw [size_app]; unfold maxLen; omega
  have s2 : (ltS a ++ ltS b).size ≤ maxLen := by rw [size_app, ltS_size, ltS_size]; unfold maxLen; omega
  have s3 : (ltS a).size ≤ 1048576 := by rw [ltS_size]; omega
  have s4 : (ltS b).size ≤ 1048576 := by rw [ltS_size]; omega
  have s5 : b.size ≤ maxLen := by unfold maxLen; omega
  have HS1 : Hid ((a ++ b).size ≤ maxLen) := s1
  have HS2 : Hid ((ltS a ++ ltS b).size ≤ maxLen) := s2
  have HS5 : Hid (b.size ≤ maxLen) := s5
  clear hr hz s1 s2 s5
  go_enter Trym.func3, Trym.ntmps3
  go_wp2_with fail
  refine (bytes_ok a b (by omega) w).mono ?_
  rintro e w1 ⟨rfl, rfl⟩
  go_wp2_with fail
  refine (zzvalid_is (a ++ b) r HJ.out HS1.out w).mono ?_
  rintro e w1 ⟨rfl, rfl⟩
  go_wp2_with fail
  refine (zzvalid_is b r HB.out HS5.out w).mono ?_
  rintro e w1 ⟨rfl, rfl⟩
  go_wp2_with fail
  refine (letters_any a (by omega) w).mono ?_
  rintro e w1 ⟨rfl, hb1⟩
  go_wp2_with fail
  refine (letters_any b (by omega) w1).mono ?_
  rintro e w2 ⟨rfl, hb2⟩
  go_wp2_with fail
  by_cases hn : 1 ≤ b.size ∧ b.size ≤ 128
  · obtain ⟨hn1, hn2⟩ := hn
    have HL' : Hid (vn (ltS a ++ ltS b).data.toList = true) := HL.out.trans (decide_eq_true (by omega))
    have d128 : decide ((a.size : Int) + (b.size : Int) ≤ 128) = true := decide_eq_true (by omega)
    refine (zzvalid_is (ltS a ++ ltS b) true HL'.out HS2.out w2).mono ?_
    rintro e w3 ⟨rfl, rfl⟩
    go_wp2
    go_ret
    exact ⟨rfl, bel2 hb1 hb2⟩
  · have HL' : Hid (vn (ltS a ++ ltS b).data.toList = false) := HL.out.trans (decide_eq_false (by omega))
    refine (zzvalid_is (ltS a ++ ltS b) false HL'.out HS2.out w2).mono ?_
    rintro e w3 ⟨rfl, rfl⟩
    by_cases hn1 : 1 ≤ b.size
    · have hn2 : 128 < b.size := by omega
      have d128 : decide ((a.size : Int) + (b.size : Int) ≤ 128) = false := decide_eq_false (by omega)
      go_wp2
      go_ret
      exact ⟨rfl, bel2 hb1 hb2⟩
    · go_wp2
      go_ret
      exact ⟨rfl, bel2 hb1 hb2⟩

theorem pre_data (b : ByteArray) : ((ByteArray.mk #[97]) ++ b).data.toList = 97 :: b.data.toList := by rw [data_app]; rfl
theorem pre_size (b : ByteArray) : ((ByteArray.mk #[97]) ++ b).size = 1 + b.size := by rw [size_app]; rfl

theorem join_is {a b : ByteArray} (ha : ¬ a.toList = []) : vn (a ++ b).data.toList = (decide (a.size + b.size ≤ 128) && vn a.data.toList && vn ((ByteArray.mk #[97]) ++ b).data.toList) := by
  rw [data_app, vn_cons _ _ (by rw [ByteArray.toList_eq] at ha; exact ha), pre_data, size_data, size_data]

theorem nonempty_size {a : ByteArray} (h : ¬ a.toList = []) : 1 ≤ a.size := by
  rw [ByteArray.toList_eq] at h
  have := List.length_pos_iff.2 h
  rw [size_data] at this
  exact this

set_option maxHeartbeats 1000000 in
/-- a is not empty, and the whole is too long for a name. -/
theorem join_long (a b : ByteArray) (ha : ¬ a.toList = []) (h : a.size + b.size ≤ 1048576) (hl : 128 < a.size + b.size) (w : World) : Calls Trym.prog 3 #[.string a, .string b] w (True_ w) := by
  have hpos := nonempty_size ha
  obtain ⟨r, hr⟩ : ∃ r, r = vn b.data.toList := ⟨_, rfl⟩
  have HJ : Hid (vn (a ++ b).data.toList = false) := by
    show vn (a ++ b).data.toList = false
    rw [join_is ha, decide_eq_false (by omega)]; rfl
  have HB : Hid (vn b.data.toList = r) := hr.symm
  have HL : Hid (vn (ltS a ++ ltS b).data.toList = false) := (vn_lt a b).trans (decide_eq_false (by omega))
  have HS1 : Hid ((a ++ b).size ≤ maxLen) := by show (a ++ b).size ≤ maxLen; rw [size_app]; unfold maxLen; omega
  have HS2 : Hid ((ltS a ++ ltS b).size ≤ maxLen) := by show (ltS a ++ ltS b).size ≤ maxLen; rw [size_app, ltS_size, ltS_size]; unfold maxLen; omega
  have s3 : (ltS a).size ≤ 1048576 := by rw [ltS_size]; omega
  have s4 : (ltS b).size ≤ 1048576 := by rw [ltS_size]; omega
  have HS5 : Hid (b.size ≤ maxLen) := by show b.size ≤ maxLen; unfold maxLen; omega
  clear hr
  have d128 : decide ((a.size : Int) + (b.size : Int) ≤ 128) = false := decide_eq_false (by omega)
  have hemp : a.toList.isEmpty = false := by simpa using ha
  clear ha
  go_enter Trym.func3, Trym.ntmps3
  go_wp2_with fail
  refine (bytes_ok a b (by omega) w).mono ?_
  rintro e w1 ⟨rfl, rfl⟩
  go_wp2_with fail
  refine (zzvalid_is (a ++ b) false HJ.out HS1.out w).mono ?_
  rintro e w1 ⟨rfl, rfl⟩
  go_wp2_with fail
  refine (zzvalid_is b r HB.out HS5.out w).mono ?_
  rintro e w1 ⟨rfl, rfl⟩
  go_wp2_with fail
  refine (letters_any a (by omega) w).mono ?_
  rintro e w1 ⟨rfl, hb1⟩
  go_wp2_with fail
  refine (letters_any b (by omega) w1).mono ?_
  rintro e w2 ⟨rfl, hb2⟩
  go_wp2_with fail
  refine (zzvalid_is (ltS a ++ ltS b) false HL.out HS2.out w2).mono ?_
  rintro e w3 ⟨rfl, rfl⟩
  go_wp2
  go_ret
  exact ⟨rfl, bel2 hb1 hb2⟩

set_option maxHeartbeats 2000000 in
/-- a is not empty, and the whole has a name's length. -/
theorem join_fit (a b : ByteArray) (ha : ¬ a.toList = []) (hl : a.size + b.size ≤ 128) (w : World) : Calls Trym.prog 3 #[.string a, .string b] w (True_ w) := by
  have hpos := nonempty_size ha
  obtain ⟨r, hr⟩ : ∃ r, r = vn b.data.toList := ⟨_, rfl⟩
  obtain ⟨q, hq⟩ : ∃ q, q = vn ((ByteArray.mk #[97]) ++ b).data.toList := ⟨_, rfl⟩
  have HJ : Hid (vn (a ++ b).data.toList = (vn a.data.toList && q)) := by
    show vn (a ++ b).data.toList = (vn a.data.toList && q)
    rw [join_is ha, decide_eq_true (by omega), hq, Bool.true_and]
  have HB : Hid (vn b.data.toList = r) := hr.symm
  have HQ : Hid (vn ((ByteArray.mk #[97]) ++ b).data.toList = q) := hq.symm
  have HL : Hid (vn (ltS a ++ ltS b).data.toList = true) := (vn_lt a b).trans (decide_eq_true (by omega))
  have HS1 : Hid ((a ++ b).size ≤ maxLen) := by show (a ++ b).size ≤ maxLen; rw [size_app]; unfold maxLen; omega
  have HS2 : Hid ((ltS a ++ ltS b).size ≤ maxLen) := by show (ltS a ++ ltS b).size ≤ maxLen; rw [size_app, ltS_size, ltS_size]; unfold maxLen; omega
  have HS6 : Hid (((ByteArray.mk #[97]) ++ b).size ≤ maxLen) := by show ((ByteArray.mk #[97]) ++ b).size ≤ maxLen; rw [pre_size]; unfold maxLen; omega
  have s3 : (ltS a).size ≤ 1048576 := by rw [ltS_size]; omega
  have s4 : (ltS b).size ≤ 1048576 := by rw [ltS_size]; omega
  have HS5 : Hid (b.size ≤ maxLen) := by show b.size ≤ maxLen; unfold maxLen; omega
  have HS7 : Hid (a.size ≤ maxLen) := by show a.size ≤ maxLen; unfold maxLen; omega
  clear hr hq
  have d128 : decide ((a.size : Int) + (b.size : Int) ≤ 128) = true := decide_eq_true (by omega)
  have hemp : a.toList.isEmpty = false := by simpa using ha
  clear ha
  cases hva : vn a.data.toList
  · have HV : Hid (vn a.data.toList = false) := hva
    have HJ' : Hid (vn (a ++ b).data.toList = false) := by show vn (a ++ b).data.toList = false; rw [HJ.out, hva]; rfl
    clear hva
    go_enter Trym.func3, Trym.ntmps3
    go_wp2_with fail
    refine (bytes_ok a b (by omega) w).mono ?_
    rintro e w1 ⟨rfl, rfl⟩
    go_wp2_with fail
    refine (zzvalid_is (a ++ b) false HJ'.out HS1.out w).mono ?_
    rintro e w1 ⟨rfl, rfl⟩
    go_wp2_with fail
    refine (zzvalid_is b r HB.out HS5.out w).mono ?_
    rintro e w1 ⟨rfl, rfl⟩
    go_wp2_with fail
    refine (zzvalid_is a false HV.out HS7.out w).mono ?_
    rintro e w1 ⟨rfl, rfl⟩
    go_wp2_with fail
    refine (letters_any a (by omega) w).mono ?_
    rintro e w1 ⟨rfl, hb1⟩
    go_wp2_with fail
    refine (letters_any b (by omega) w1).mono ?_
    rintro e w2 ⟨rfl, hb2⟩
    go_wp2_with fail
    refine (zzvalid_is (ltS a ++ ltS b) true HL.out HS2.out w2).mono ?_
    rintro e w3 ⟨rfl, rfl⟩
    go_wp2
    go_ret
    exact ⟨rfl, bel2 hb1 hb2⟩
  · have HV : Hid (vn a.data.toList = true) := hva
    have HJ' : Hid (vn (a ++ b).data.toList = q) := by show vn (a ++ b).data.toList = q; rw [HJ.out, hva]; rfl
    clear hva
    go_enter Trym.func3, Trym.ntmps3
    go_wp2_with fail
    refine (bytes_ok a b (by omega) w).mono ?_
    rintro e w1 ⟨rfl, rfl⟩
    go_wp2_with fail
    refine (zzvalid_is (a ++ b) q HJ'.out HS1.out w).mono ?_
    rintro e w1 ⟨rfl, rfl⟩
    go_wp2_with fail
    refine (zzvalid_is b r HB.out HS5.out w).mono ?_
    rintro e w1 ⟨rfl, rfl⟩
    go_wp2_with fail
    refine (zzvalid_is a true HV.out HS7.out w).mono ?_
    rintro e w1 ⟨rfl, rfl⟩
    go_wp2_with fail
    refine (zzvalid_is ((ByteArray.mk #[97]) ++ b) q HQ.out HS6.out w).mono ?_
    rintro e w1 ⟨rfl, rfl⟩
    go_wp2_with fail
    refine (letters_any a (by omega) w).mono ?_
    rintro e w1 ⟨rfl, hb1⟩
    go_wp2_with fail
    refine (letters_any b (by omega) w1).mono ?_
    rintro e w2 ⟨rfl, hb2⟩
    go_wp2_with fail
    refine (zzvalid_is (ltS a ++ ltS b) true HL.out HS2.out w2).mono ?_
    rintro e w3 ⟨rfl, rfl⟩
    go_wp2
    go_ret
    exact ⟨rfl, bel2 hb1 hb2⟩

theorem join_any (a b : ByteArray) (ha : a.size ≤ maxLen) (hb : b.size ≤ maxLen) (w : World) : Calls Trym.prog 3 #[.string a, .string b] w (True_ w) := by
  by_cases h : 1048576 < a.size + b.size
  · exact join_big a b ha hb h w
  · by_cases he : a.toList = []
    · exact join_empty a b he (by omega) w
    · by_cases hl : 128 < a.size + b.size
      · exact join_long a b he (by omega) hl w
      · exact join_fit a b he (by omega) w
end Go.Proofs.Qxb6608549aMods
