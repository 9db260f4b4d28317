/-
  THE WALK OF 'FnRevisionFileNoTwoRevisionsShareAFile'.
-/
import Derived.Test.Qxb6608791aDoorItoa
import Derived.Test.Qxb6608791aDoorPlain2
namespace Go.Proofs.Qxb6608791aDoor.W
open Go.RowKit
open Go.Proofs.Qxb6608791aDoor.Plain
open Go.Lib (itoa)

theorem lawB_long (s t : ByteArray) (n m : Int) (w : World) (hs : s.size ≤ maxLen) (ht : t.size ≤ maxLen) (h : 1048576 < s.size + t.size) :
    Calls Tryd.prog 4 #[.string s, .string t, .int .i64 n, .int .i64 m] w fun e w' => e = .returned (.bool true) ∧ Below w.heap.size w w' := by
  go_enter Tryd.func4, Tryd.ntmps4
  go_wp2_with (go_at_call 11; refine (bytes11_no _ _ _ _ _ hs ht h).mono ?_; rintro e w' ⟨rfl, hw⟩; subst w')
  go_ret
  exact ⟨rfl, Below.refl _ _⟩

set_option maxHeartbeats 2000000 in
set_option maxRecDepth 100000 in
theorem lawB_any (s t : ByteArray) (n m : Int) (w : World) (hst : s.size + t.size ≤ 1048576) (n0 : -9223372036854775808 ≤ n) (n1 : n ≤ 9223372036854775807) (m0 : -9223372036854775808 ≤ m) (m1 : m ≤ 9223372036854775807) (ht : Tab w) :
    Calls Tryd.prog 4 #[.string s, .string t, .int .i64 n, .int .i64 m] w fun e w' => e = .returned (.bool true) ∧ Below w.heap.size w w' := by
  have HT : Hid _ := ht
  clear ht
  go_enter Tryd.func4, Tryd.ntmps4
  go_wp2_with (go_at_call 11; refine (bytes11_yes _ _ _ _ _ hst).mono ?_; rintro e w' ⟨rfl, hw⟩; subst w')
  refine (newChecker s w).mono ?_
  rintro e w1 ⟨rfl, hc1, hlt1, hb1⟩
  have ht1 : Tab w1 := Tab.below HT.out hb1
  have H2 := zzRev w.heap.size s n w1 n0 n1 ht1 hc1 (by omega)
  obtain ⟨Fa, hFa⟩ : ∃ F : ByteArray, F = ⟨(file s.data.toList (itoa n)).toArray⟩ := ⟨_, rfl⟩
  rw [← hFa] at H2
  have HFa : Hid _ := hFa
  have HB1 : Hid _ := hb1
  have HT1 : Hid _ := ht1
  clear hFa hb1 hc1 ht1 HT
  go_wp2_with fail
  refine H2.mono ?_
  rintro e w2 ⟨rfl, hb2⟩
  have HT2 : Hid (Tab w2) := Tab.below HT1.out hb2
  have HB2 : Hid (Below w.heap.size w w2) := HB1.out.trans (hb2.mono (by omega))
  have hlt2 : w.heap.size ≤ w2.heap.size := HB2.out.size
  clear H2 hb2 HB1 HT1
  go_wp2_with fail
  refine (newChecker t w2).mono ?_
  rintro e w3 ⟨rfl, hc3, hlt3, hb3⟩
  have H4 := zzRev w2.heap.size t m w3 m0 m1 (Tab.below HT2.out hb3) hc3 (by omega)
  obtain ⟨Fb, hFb⟩ : ∃ F : ByteArray, F = ⟨(file t.data.toList (itoa m)).toArray⟩ := ⟨_, rfl⟩
  rw [← hFb] at H4
  have HFb : Hid _ := hFb
  have HB3 : Hid (Below w.heap.size w w3) := HB2.out.trans (hb3.mono hlt2)
  clear hFb hc3 hb3 HB2 HT2
  go_wp2_with fail
  refine H4.mono ?_
  rintro e w4 ⟨rfl, hb4⟩
  have HB4 : Hid (Below w.heap.size w w4) := HB3.out.trans (hb4.mono (by omega))
  have hlt4 : w.heap.size ≤ w4.heap.size := HB4.out.size
  have H5 := itoa8 n w4 n0 n1
  obtain ⟨In, hIn⟩ : ∃ F : ByteArray, F = ⟨(itoa n).toArray⟩ := ⟨_, rfl⟩
  rw [← hIn] at H5
  have HIn : Hid _ := hIn
  have hIl : In.size ≤ 21 := by rw [str_size In (itoa n) (by rw [hIn])]; exact Lib.itoa_length_le n n0 n1
  clear hIn H4 hb4 HB3
  go_wp2_with fail
  refine H5.mono ?_
  rintro e w5 ⟨rfl, hb5⟩
  have HB5 : Hid (Below w.heap.size w w5) := HB4.out.trans (hb5.mono hlt4)
  have hlt5 : w.heap.size ≤ w5.heap.size := HB5.out.size
  clear H5 hb5 HB4
  go_wp2_with fail
  generalize hSA : ((⟨#[114, 101, 118, 105, 115, 105, 111, 110, 115, 47]⟩ : ByteArray) ++ In) = SA
  have hsl : s.data.toList.length = s.size := by simp
  have htl : t.data.toList.length = t.size := by simp
  have eA : Fa.data.toList = pre s.data.toList ++ SA.data.toList := by rw [HFa.out, ← hSA, HIn.out]; simp [file, revs]
  have zA : SA.size = 10 + In.size := by rw [← hSA]; simp; rfl
  have hplA := pre_len s.data.toList
  have zFa : Fa.size = (pre s.data.toList).length + SA.size := by rw [str_size Fa _ eA]; simp
  have kA : Fa.size ≤ 4194304 := by omega
  have hA9 := suffix_yes Fa SA w5 kA (by omega) _ eA
  clear hSA eA zA hplA zFa HIn
  refine hA9.mono ?_
  rintro e w' ⟨rfl, hw⟩; subst w'
  have H6 := itoa8 m w5 m0 m1
  obtain ⟨Im, hIm⟩ : ∃ F : ByteArray, F = ⟨(itoa m).toArray⟩ := ⟨_, rfl⟩
  rw [← hIm] at H6
  have HIm : Hid _ := hIm
  have hIl2 : Im.size ≤ 21 := by rw [str_size Im (itoa m) (by rw [hIm])]; exact Lib.itoa_length_le m m0 m1
  clear hIm hA9
  go_wp2_with fail
  refine H6.mono ?_
  rintro e w6 ⟨rfl, hb6⟩
  have HB6 : Hid (Below w.heap.size w w6) := HB5.out.trans (hb6.mono hlt5)
  clear H6 hb6 HB5
  go_wp2_with fail
  generalize hSB : ((⟨#[114, 101, 118, 105, 115, 105, 111, 110, 115, 47]⟩ : ByteArray) ++ Im) = SB
  have eB : Fb.data.toList = pre t.data.toList ++ SB.data.toList := by rw [HFb.out, ← hSB, HIm.out]; simp [file, revs]
  have zB : SB.size = 10 + Im.size := by rw [← hSB]; simp; rfl
  have hplB := pre_len t.data.toList
  have zFb : Fb.size = (pre t.data.toList).length + SB.size := by rw [str_size Fb _ eB]; simp
  have kB : Fb.size ≤ 4194304 := by omega
  have hB9 := suffix_yes Fb SB w6 kB (by omega) _ eB
  clear hSB eB zB hplB zFb HIm hsl htl
  have hP1 := plain10 s w6 (by omega)
  have hP2 := plain10 t w6 (by omega)
  refine hB9.mono ?_
  rintro e w' ⟨rfl, hw⟩; subst w'
  clear hB9
  -- the verdict
  have HV : Hid ((n ≠ m → (Fa.toList == Fb.toList) = false) ∧ (plainB s.data.toList = true → plainB t.data.toList = true → n = m → (Fa.toList == Fb.toList) = (s.toList == t.toList))) := by
    have ea : Fa.toList = file s.data.toList (itoa n) := by rw [HFa.out, Lib.toList_data]
    have eb : Fb.toList = file t.data.toList (itoa m) := by rw [HFb.out, Lib.toList_data]
    refine ⟨fun hnm => ?_, fun h1 h2 hnm => ?_⟩
    · rw [ea, eb, beq_eq_false_iff_ne]
      exact fun h => hnm (itoa_inj _ _ (file_inj _ _ _ _ (itoa_no47 n) (itoa_no47 m) h).2)
    · subst hnm
      rw [ea, eb, Lib.toList_data, Lib.toList_data, Bool.eq_iff_iff, beq_iff_eq, beq_iff_eq]
      constructor
      · intro h
        exact pre_inj _ _ h1 h2 (file_inj _ _ _ _ (itoa_no47 n) (itoa_no47 n) h).1
      · intro h; rw [h]
  clear HFa HFb
  by_cases hnm : n = m
  · have hEE := HV.out.2
    subst hnm
    clear HV
    go_wp2_with fail
    by_cases hp1 : plainB s.data.toList = true
    · rw [hp1] at hP1
      refine hP1.mono ?_
      rintro e w' ⟨rfl, hw⟩; subst w'
      clear hP1
      by_cases hp2 : plainB t.data.toList = true
      · rw [hp2] at hP2
        have HEE : Hid _ := hEE hp1 hp2 (by trivial)
        clear hEE hp1 hp2
        go_wp2_with fail
        refine hP2.mono ?_
        rintro e w' ⟨rfl, hw⟩; subst w'
        clear hP2
        by_cases hst2 : (s.toList == t.toList) = true
        · have hF : (Fa.toList == Fb.toList) = true := HEE.out.trans hst2
          clear HEE
          go_wp2
          go_ret
          exact ⟨ret_bool (by simp_all), HB6.out⟩
        · have hst3 : (s.toList == t.toList) = false := by simpa using hst2
          have hF : (Fa.toList == Fb.toList) = false := HEE.out.trans hst3
          clear HEE hst2
          go_wp2
          go_ret
          exact ⟨ret_bool (by simp_all), HB6.out⟩
      · rw [show plainB t.data.toList = false by simpa using hp2] at hP2
        clear hEE hp1 hp2
        go_wp2_with fail
        refine hP2.mono ?_
        rintro e w' ⟨rfl, hw⟩; subst w'
        clear hP2
        go_wp2
        go_ret
        exact ⟨rfl, HB6.out⟩
    · rw [show plainB s.data.toList = false by simpa using hp1] at hP1
      clear hEE hp1
      refine hP1.mono ?_
      rintro e w' ⟨rfl, hw⟩; subst w'
      clear hP1
      go_wp2
      go_ret
      exact ⟨rfl, HB6.out⟩
  · have hne : (Fa.toList == Fb.toList) = false := HV.out.1 hnm
    have hnb : (n == m) = false := by simpa using hnm
    clear HV
    go_wp2_with fail
    by_cases hp1 : plainB s.data.toList = true
    · rw [hp1] at hP1
      refine hP1.mono ?_
      rintro e w' ⟨rfl, hw⟩; subst w'
      clear hP1 hp1
      by_cases hp2 : plainB t.data.toList = true
      · rw [hp2] at hP2
        clear hp2
        go_wp2_with fail
        refine hP2.mono ?_
        rintro e w' ⟨rfl, hw⟩; subst w'
        clear hP2
        by_cases hst2 : (s.toList == t.toList) = true
        · go_wp2
          go_ret
          exact ⟨ret_bool (by simp_all), HB6.out⟩
        · have hst3 : (s.toList == t.toList) = false := by simpa using hst2
          clear hst2
          go_wp2
          go_ret
          exact ⟨ret_bool (by simp_all), HB6.out⟩
      · rw [show plainB t.data.toList = false by simpa using hp2] at hP2
        clear hp2
        go_wp2_with fail
        refine hP2.mono ?_
        rintro e w' ⟨rfl, hw⟩; subst w'
        clear hP2
        go_wp2
        go_ret
        exact ⟨rfl, HB6.out⟩
    · rw [show plainB s.data.toList = false by simpa using hp1] at hP1
      clear hp1
      refine hP1.mono ?_
      rintro e w' ⟨rfl, hw⟩; subst w'
      clear hP1
      go_wp2
      go_ret
      exact ⟨rfl, HB6.out⟩

end Go.Proofs.Qxb6608791aDoor.W
