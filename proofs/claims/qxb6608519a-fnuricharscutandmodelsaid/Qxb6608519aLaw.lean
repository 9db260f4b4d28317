/-
  THE LAW's OWN WALK.
-/
import Derived.Test.Qxb6608519aUri
namespace Go.Proofs.Qxb6608519a.W
open Go.RowKit
open Go.Proofs.Qxb6608519a.Plain

theorem law_long (s o : ByteArray) (k : Int) (hs : s.size ≤ maxLen) (ho : o.size ≤ maxLen) (h : 65536 < s.size ∨ 65536 < o.size) (w : World) :
    Calls Try.prog 3 #[.string s, .string o, .int .i64 k] w fun e w' => e = .returned (.bool true) ∧ w' = w := by
  have HB := bytes_any s o k hs ho w
  unfold maxLen at hs ho
  rcases Nat.lt_or_ge 65536 s.size with h1 | h1
  · clear h
    go_enter Try.func3, Try.ntmps3
    go_wp2_with (go_at_call 5; refine HB.mono ?_; rintro e w' ⟨b, rfl, hw⟩; subst w'; cases b)
    all_goals
      go_ret
      exact ⟨rfl, rfl⟩
  · have h2 : 65536 < o.size := by omega
    clear h
    go_enter Try.func3, Try.ntmps3
    go_wp2_with (go_at_call 5; refine HB.mono ?_; rintro e w' ⟨b, rfl, hw⟩; subst w'; cases b)
    all_goals
      go_ret
      exact ⟨rfl, rfl⟩

theorem law_out (s o : ByteArray) (k : Int) (hs : s.size ≤ 65536) (ho : o.size ≤ 65536) (h : k < 0 ∨ s.size < k) (w : World) :
    Calls Try.prog 3 #[.string s, .string o, .int .i64 k] w fun e w' => e = .returned (.bool true) ∧ w' = w := by
  have HB := bytes_yes s o k hs ho w
  rcases Int.lt_or_le k 0 with h1 | h1
  · clear h
    go_enter Try.func3, Try.ntmps3
    go_wp2_with (go_at_call 5; refine HB.mono ?_; rintro e w' ⟨rfl, hw⟩; subst w')
    go_ret
    exact ⟨rfl, rfl⟩
  · have h2 : (s.size : Int) < k := by omega
    clear h
    go_enter Try.func3, Try.ntmps3
    go_wp2_with (go_at_call 5; refine HB.mono ?_; rintro e w' ⟨rfl, hw⟩; subst w')
    go_ret
    exact ⟨rfl, rfl⟩

/-- The cut law at a string. -/
theorem cut_law (s : ByteArray) (O : List Int) (n : Nat) (hn : n ≤ s.size) (h1 : ∀ h : 1 ≤ n, ((s[n - 1]'(by omega)).toNat : Int) ≠ 37) (h2 : ∀ h : 2 ≤ n, ((s[n - 2]'(by omega)).toNat : Int) ≠ 37) :
    scan O (bs s) = (scan O (bs (s.extract 0 n)) && scan O (bs (s.extract n s.size))) := by
  rw [bs_extract, bs_extract, List.drop_zero, List.take_of_length_le (i := s.size) (by rw [bs_length]; omega)]
  have := scan_cut O ((bs s).drop n) n ((bs s).take n) (by simp; omega) ?_
  · rwa [List.take_append_drop] at this
  · intro i hi1 hi2 hc
    simp only [List.length_take, bs_length] at hi1 hi2
    have hi : i < n := by omega
    rw [List.getElem?_take, if_pos hi, bs_get s i (by omega)] at hc
    simp only [Option.some.injEq] at hc
    rcases (show i = n - 1 ∨ (2 ≤ n ∧ i = n - 2) from by omega) with rfl | ⟨h, rfl⟩
    · exact h1 (by omega) hc
    · exact h2 h hc

set_option maxHeartbeats 1000000 in
theorem law_in (s o : ByteArray) (n : Nat) (hs : s.size ≤ 65536) (ho : o.size ≤ 65536) (hn : n ≤ s.size) (w : World) :
    Calls Try.prog 3 #[.string s, .string o, .int .i64 (n : Int)] w fun e w' => e = .returned (.bool true) ∧ w' = w := by
  have HB := bytes_yes s o n hs ho w
  have HU := zzuri6 s o hs w
  have HP := pct7 s o hs ho w
  have HL := zzuri6 (s.extract 0 n) o (by simp; omega) w
  have HR := zzuri6 (s.extract n s.size) o (by simp; omega) w
  have HC := cut_law s (bs o) n hn
  generalize scan (bs o) (bs s) = V at HU HP HC
  generalize scan (bs o) (bs (s.extract 0 n)) = L at HL HC
  generalize scan (bs o) (bs (s.extract n s.size)) = R at HR HC
  rcases (show n = 0 ∨ n = 1 ∨ ∃ m, n = m + 2 from by
    rcases n with _ | _ | m
    · exact .inl rfl
    · exact .inr (.inl rfl)
    · exact .inr (.inr ⟨m, rfl⟩)) with rfl | rfl | ⟨m, rfl⟩
  · have HV : Hid (V = (L && R)) := HC (fun h => by omega) (fun h => by omega)
    rw [show s.extract 0 0 = ByteArray.empty by simp] at HL
    rw [show s.extract 0 s.size = s by simp] at HR
    clear HC
    go_enter Try.func3, Try.ntmps3
    go_wp2_with (first
      | (go_at_call 5; refine HB.mono ?_; rintro e w' ⟨rfl, hw⟩; subst w')
      | (go_at_call 7; refine HP.mono ?_; rintro e w' ⟨rfl, hw⟩; subst w'))
    refine HU.mono ?_
    rintro e w' ⟨rfl, hw⟩; subst w'
    go_wp2_with (go_at_call 7; refine HP.mono ?_; rintro e w' ⟨rfl, hw⟩; subst w')
    refine HL.mono ?_
    rintro e w' ⟨rfl, hw⟩; subst w'
    go_wp2_with (fail)
    refine HR.mono ?_
    rintro e w' ⟨rfl, hw⟩; subst w'
    go_wp2
    all_goals
      go_ret
      refine ⟨ret_bool ?_, rfl⟩
      have := HV.out
      revert this
      clear HB HU HP HL HR HV
      cases V <;> cases L <;> cases R <;> simp_all
  · by_cases h1 : ((s[0].toNat : Nat) : Int) = 37
    · have hb1 : (((s[0].toNat : Nat) : Int) == 37) = true := by simpa using h1
      clear HC HL HR h1
      go_enter Try.func3, Try.ntmps3
      go_wp2_with (go_at_call 5; refine HB.mono ?_; rintro e w' ⟨rfl, hw⟩; subst w')
      refine HU.mono ?_
      rintro e w' ⟨rfl, hw⟩; subst w'
      go_wp2_with (go_at_call 7; refine HP.mono ?_; rintro e w' ⟨rfl, hw⟩; subst w')
      go_ret
      exact ⟨rfl, rfl⟩
    · have hb1 : (((s[0].toNat : Nat) : Int) == 37) = false := by simpa using h1
      have HV : Hid (V = (L && R)) := HC (fun _ => h1) (fun h => by omega)
      clear HC h1
      go_enter Try.func3, Try.ntmps3
      go_wp2_with (go_at_call 5; refine HB.mono ?_; rintro e w' ⟨rfl, hw⟩; subst w')
      refine HU.mono ?_
      rintro e w' ⟨rfl, hw⟩; subst w'
      go_wp2_with (go_at_call 7; refine HP.mono ?_; rintro e w' ⟨rfl, hw⟩; subst w')
      refine HL.mono ?_
      rintro e w' ⟨rfl, hw⟩; subst w'
      go_wp2_with (fail)
      refine HR.mono ?_
      rintro e w' ⟨rfl, hw⟩; subst w'
      go_wp2
      all_goals
        go_ret
        refine ⟨ret_bool ?_, rfl⟩
        have := HV.out
        revert this
        clear HB HU HP HL HR HV
        cases V <;> cases L <;> cases R <;> simp_all
  · have hm1 : m + 1 < s.size := by omega
    have hm : m < s.size := by omega
    by_cases h1 : ((s[m + 1].toNat : Nat) : Int) = 37
    · have hb1 : (((s[m + 1].toNat : Nat) : Int) == 37) = true := by simpa using h1
      clear HC HL HR h1
      go_enter Try.func3, Try.ntmps3
      go_wp2_with (go_at_call 5; refine HB.mono ?_; rintro e w' ⟨rfl, hw⟩; subst w')
      refine HU.mono ?_
      rintro e w' ⟨rfl, hw⟩; subst w'
      go_wp2_with (go_at_call 7; refine HP.mono ?_; rintro e w' ⟨rfl, hw⟩; subst w')
      go_ret
      exact ⟨rfl, rfl⟩
    · have hb1 : (((s[m + 1].toNat : Nat) : Int) == 37) = false := by simpa using h1
      by_cases h2 : ((s[m].toNat : Nat) : Int) = 37
      · have hb2 : (((s[m].toNat : Nat) : Int) == 37) = true := by simpa using h2
        clear HC HL HR h1 h2
        go_enter Try.func3, Try.ntmps3
        go_wp2_with (go_at_call 5; refine HB.mono ?_; rintro e w' ⟨rfl, hw⟩; subst w')
        refine HU.mono ?_
        rintro e w' ⟨rfl, hw⟩; subst w'
        go_wp2_with (go_at_call 7; refine HP.mono ?_; rintro e w' ⟨rfl, hw⟩; subst w')
        go_ret
        exact ⟨rfl, rfl⟩
      · have hb2 : (((s[m].toNat : Nat) : Int) == 37) = false := by simpa using h2
        have HV : Hid (V = (L && R)) := HC (fun _ => h1) (fun _ => h2)
        clear HC h1 h2
        go_enter Try.func3, Try.ntmps3
        go_wp2_with (go_at_call 5; refine HB.mono ?_; rintro e w' ⟨rfl, hw⟩; subst w')
        refine HU.mono ?_
        rintro e w' ⟨rfl, hw⟩; subst w'
        go_wp2_with (go_at_call 7; refine HP.mono ?_; rintro e w' ⟨rfl, hw⟩; subst w')
        refine HL.mono ?_
        rintro e w' ⟨rfl, hw⟩; subst w'
        go_wp2_with (fail)
        refine HR.mono ?_
        rintro e w' ⟨rfl, hw⟩; subst w'
        go_wp2
        all_goals
          go_ret
          refine ⟨ret_bool ?_, rfl⟩
          have := HV.out
          revert this
          clear HB HU HP HL HR HV
          cases V <;> cases L <;> cases R <;> simp_all

end Go.Proofs.Qxb6608519a.W
