/-
  THE WALK OF 'FnRevisionFileEndsInItsNumber'.
-/
import Derived.Test.Qxb6608791aDoorItoa
import Derived.Test.Qxb6608791aDoorPlain2
namespace Go.Proofs.Qxb6608791aDoor.W
open Go.RowKit
open Go.Proofs.Qxb6608791aDoor.Plain
open Go.Lib (itoa)

theorem lawA_long (s : ByteArray) (n m : Int) (w : World) (h : 1048576 < s.size) :
    Calls Tryd.prog 3 #[.string s, .int .i64 n, .int .i64 m] w fun e w' => e = .returned (.bool true) ∧ Below w.heap.size w w' := by
  go_enter Tryd.func3, Tryd.ntmps3
  go_wp2_with (go_at_call 5; refine (bytes5_no _ _ _ _ h).mono ?_; rintro e w' ⟨rfl, hw⟩; subst w')
  go_ret
  exact ⟨rfl, Below.refl _ _⟩

set_option maxHeartbeats 2000000 in
set_option maxRecDepth 100000 in
theorem lawA_any (s : ByteArray) (n m : Int) (w : World) (hs : s.size ≤ 1048576) (n0 : -9223372036854775808 ≤ n) (n1 : n ≤ 9223372036854775807) (m0 : -9223372036854775808 ≤ m) (m1 : m ≤ 9223372036854775807) (ht : Tab w) :
    Calls Tryd.prog 3 #[.string s, .int .i64 n, .int .i64 m] w fun e w' => e = .returned (.bool true) ∧ Below w.heap.size w w' := by
  have HT : Hid _ := ht
  clear ht
  go_enter Tryd.func3, Tryd.ntmps3
  go_wp2_with (go_at_call 5; refine (bytes5_yes _ _ _ _ hs).mono ?_; rintro e w' ⟨rfl, hw⟩; subst w')
  refine (newChecker s w).mono ?_
  rintro e w1 ⟨rfl, hc1, hlt1, hb1⟩
  have ht1 : Tab w1 := Tab.below HT.out hb1
  have H2 := zzRev w.heap.size s n w1 n0 n1 ht1 hc1 hs
  obtain ⟨Fa, hFa⟩ : ∃ F : ByteArray, F = ⟨(file s.data.toList (itoa n)).toArray⟩ := ⟨_, rfl⟩
  rw [← hFa] at H2
  have HFa : Hid _ := hFa
  have HB1 : Hid _ := hb1
  have HC1 : Hid _ := hc1
  have HT1 : Hid _ := ht1
  clear hFa hb1 hc1 ht1
  go_wp2_with fail
  refine H2.mono ?_
  rintro e w2 ⟨rfl, hb2⟩
  have H3 := zzRev w.heap.size s m w2 m0 m1 (Tab.below HT1.out hb2) ((hb2.cell (p := ⟨w.heap.size, 7, none⟩) hlt1).trans HC1.out) hs
  obtain ⟨Fb, hFb⟩ : ∃ F : ByteArray, F = ⟨(file s.data.toList (itoa m)).toArray⟩ := ⟨_, rfl⟩
  rw [← hFb] at H3
  have HFb : Hid _ := hFb
  have HB2 : Hid (Below w.heap.size w w2) := HB1.out.trans (hb2.mono (by omega))
  have hlt2 : w.heap.size ≤ w2.heap.size := HB2.out.size
  clear hFb H2 hb2 HB1 HC1 HT1 HT
  go_wp2_with fail
  refine H3.mono ?_
  rintro e w3 ⟨rfl, hb3⟩
  have HB3 : Hid (Below w.heap.size w w3) := HB2.out.trans (hb3.mono hlt2)
  have hlt3 : w.heap.size ≤ w3.heap.size := HB3.out.size
  have H4 := itoa8 n w3 n0 n1
  obtain ⟨In, hIn⟩ : ∃ F : ByteArray, F = ⟨(itoa n).toArray⟩ := ⟨_, rfl⟩
  rw [← hIn] at H4
  have HIn : Hid _ := hIn
  have hIl : In.size ≤ 21 := by rw [str_size In (itoa n) (by rw [hIn])]; exact Lib.itoa_length_le n n0 n1
  clear hIn H3 hb3 HB2
  go_wp2_with fail
  refine H4.mono ?_
  rintro e w4 ⟨rfl, hb4⟩
  have HB4 : Hid (Below w.heap.size w w4) := HB3.out.trans (hb4.mono hlt3)
  have hlt4 : w.heap.size ≤ w4.heap.size := HB4.out.size
  have H5 := itoa8 m w4 m0 m1
  obtain ⟨Im, hIm⟩ : ∃ F : ByteArray, F = ⟨(itoa m).toArray⟩ := ⟨_, rfl⟩
  rw [← hIm] at H5
  have HIm : Hid _ := hIm
  have hIl2 : Im.size ≤ 21 := by rw [str_size Im (itoa m) (by rw [hIm])]; exact Lib.itoa_length_le m m0 m1
  clear hIm H4 hb4 HB3
  go_wp2_with fail
  refine H5.mono ?_
  rintro e w5 ⟨rfl, hb5⟩
  have HB5 : Hid (Below w.heap.size w w5) := HB4.out.trans (hb5.mono hlt4)
  clear H5 hb5 HB4
  go_wp2_with fail
  generalize hSA : ((⟨#[114, 101, 118, 105, 115, 105, 111, 110, 115, 47]⟩ : ByteArray) ++ In) = SA
  generalize hSB : ((⟨#[114, 101, 118, 105, 115, 105, 111, 110, 115, 47]⟩ : ByteArray) ++ Im) = SB
  have eA : Fa.data.toList = pre s.data.toList ++ SA.data.toList := by rw [HFa.out, ← hSA, HIn.out]; simp [file, revs]
  have eB : Fb.data.toList = pre s.data.toList ++ SB.data.toList := by rw [HFb.out, ← hSB, HIm.out]; simp [file, revs]
  have zA : SA.size = 10 + In.size := by rw [← hSA]; simp; rfl
  have zB : SB.size = 10 + Im.size := by rw [← hSB]; simp; rfl
  have hpl := pre_len s.data.toList
  have hsl : s.data.toList.length = s.size := by simp
  have zFa : Fa.size = (pre s.data.toList).length + SA.size := by rw [str_size Fa _ eA]; simp
  have zFb : Fb.size = (pre s.data.toList).length + SB.size := by rw [str_size Fb _ eB]; simp
  have hA9 := suffix_yes Fa SA w5 (by omega) (by omega) _ eA
  have hB9 := suffix_yes Fb SB w5 (by omega) (by omega) _ eB
  obtain ⟨PA, hPA⟩ : ∃ P : ByteArray, P = ⟨(pre s.data.toList).toArray⟩ := ⟨_, rfl⟩
  have cA : Fa.extract 0 (Fa.size - SA.size) = PA := by rw [hPA]; exact str_cut Fa _ _ eA _ (by omega)
  have cB : Fb.extract 0 (Fb.size - SB.size) = PA := by rw [hPA]; exact str_cut Fb _ _ eB _ (by omega)
  have bA : SA.size ≤ Fa.size := by omega
  have bB : SB.size ≤ Fb.size := by omega
  have kA : Fa.size ≤ 4194304 := by omega
  have kB : Fb.size ≤ 4194304 := by omega
  have hP10 := plain10 s w5 hs
  have HPA : Hid _ := hPA
  have HZ : Hid _ := And.intro zFa zFb
  clear hSA hSB eA eB hpl hsl hPA zA zB zFa zFb HFa HFb HIn HIm
  refine hA9.mono ?_
  rintro e w' ⟨rfl, hw⟩; subst w'
  go_wp2_with fail
  refine hB9.mono ?_
  rintro e w' ⟨rfl, hw⟩; subst w'
  clear hA9 hB9
  rcases pre_end s.data.toList with hpe | ⟨t, hpe⟩
  · have hem : PA.toList.isEmpty = true := by rw [HPA.out, hpe, Lib.toList_data]; rfl
    go_wp2_with fail
    by_cases hpn : plainB s.data.toList = true
    · rw [hpn] at hP10
      have HEq : Hid (PA = ((⟨#[114, 101, 112, 111, 115, 47]⟩ : ByteArray) ++ s) ++ (⟨#[47]⟩ : ByteArray)) := by
        unfold Hid
        rw [HPA.out]
        apply str_ext
        simp [pre_plain _ hpn, repos]
      clear hpn
      refine hP10.mono ?_
      rintro e w' ⟨rfl, hw⟩; subst w'
      go_wp2
      go_ret
      refine ⟨ret_bool ?_, HB5.out⟩
      rw [← HEq.out]
      simp
    · rw [show plainB s.data.toList = false by simpa using hpn] at hP10
      clear hpn
      refine hP10.mono ?_
      rintro e w' ⟨rfl, hw⟩; subst w'
      go_wp2
      go_ret
      exact ⟨rfl, HB5.out⟩
  · have hem : PA.toList.isEmpty = false := by rw [HPA.out, hpe, Lib.toList_data]; simp
    have hzp : PA.size = (pre s.data.toList).length := str_size PA (pre s.data.toList) (by rw [HPA.out])
    have hz1 : 0 < PA.size := by rw [hzp, hpe]; simp
    have hz2 : PA.size ≤ 4194304 := by have := HZ.out.1; omega
    have hlast : (((PA[PA.size - 1]'(Nat.sub_lt hz1 Nat.one_pos)).toNat : Int) != 47) = false := by
      have h1 : PA.data.toList[PA.size - 1]? = some (PA[PA.size - 1]'(Nat.sub_lt hz1 Nat.one_pos)) := by
        have h' : PA.size - 1 < PA.data.size := by show PA.size - 1 < PA.size; omega
        rw [Array.getElem?_toList, Array.getElem?_eq_getElem h']
        rfl
      have h2 : PA.data.toList[PA.size - 1]? = some 47 := by
        rw [show PA.data.toList = pre s.data.toList by rw [HPA.out], hzp, hpe]
        simp
      rw [h1] at h2
      rw [Option.some.inj h2]
      rfl
    clear hzp
    go_wp2_with fail
    by_cases hpn : plainB s.data.toList = true
    · rw [hpn] at hP10
      have HEq : Hid (PA = ((⟨#[114, 101, 112, 111, 115, 47]⟩ : ByteArray) ++ s) ++ (⟨#[47]⟩ : ByteArray)) := by
        unfold Hid
        rw [HPA.out]
        apply str_ext
        simp [pre_plain _ hpn, repos]
      clear hpn
      refine hP10.mono ?_
      rintro e w' ⟨rfl, hw⟩; subst w'
      go_wp2
      go_ret
      refine ⟨ret_bool ?_, HB5.out⟩
      rw [← HEq.out]
      simp
    · rw [show plainB s.data.toList = false by simpa using hpn] at hP10
      clear hpn
      refine hP10.mono ?_
      rintro e w' ⟨rfl, hw⟩; subst w'
      go_wp2
      go_ret
      exact ⟨rfl, HB5.out⟩

end Go.Proofs.Qxb6608791aDoor.W
