/-
  THE CONTRACT OF 'zzPctText'.
-/
import Derived.Test.Qxb6608519aOnly
namespace Go.Proofs.Qxb6608519a.W
open Go.RowKit
open Go.Proofs.Qxb6608519a.Plain

set_option maxHeartbeats 1000000 in
theorem pct7 (s o : ByteArray) (hs : s.size ≤ 65536) (ho : o.size ≤ 65536) (w : World) : Calls Try.prog 7 #[.string s, .string o] w fun e w' => e = .returned (.bool (scan (bs o) (bs s))) ∧ w' = w := by
  have HI := fun x => index13 o x (by omega) w
  have HO : Hid (∀ x, okB (bs o) x = (letB x || digB x || decide (0 ≤ ix x (bs o)))) := fun _ => rfl
  have HE := scan_esc (bs o) (bs s)
  have HN := scan_end (bs o) (bs s)
  have HT := scan_step (bs o) (bs s)
  have h0 : scan (bs o) ((bs s).drop 0) = scan (bs o) (bs s) := rfl
  have hend : scan (bs o) ((bs s).drop s.size) = true := by rw [List.drop_eq_nil_of_le (by rw [bs_length]; omega)]; rfl
  generalize scan (bs o) (bs s) = V at h0 ⊢
  have H0 : Hid _ := h0
  have HZ : Hid _ := hend
  have HE' : Hid _ := HE
  have HN' : Hid _ := HN
  have HT' : Hid _ := HT
  have HI' : Hid _ := HI
  clear HE HN HT h0 hend HI
  go_enter Try.func7, Try.ntmps7
  go_wp2
  go_loop [5] (fun i => ∃ k : Nat, k ≤ s.size ∧ i = .int .i64 k ∧ scan (bs o) ((bs s).drop k) = V) (fun i => s.size - (intOf i).toNat)
  case atStart => exact ⟨0, Nat.zero_le _, rfl, H0.out⟩
  case round =>
    obtain ⟨k, hk, rfl, hV⟩ := hrel
    have HV : Hid _ := hV
    clear hV
    by_cases hlt : k < s.size
    · have HG : Hid _ := bs_get s k hlt
      by_cases h37 : ((s[k].toNat : Nat) : Int) = 37
      · have hb37 : (((s[k].toNat : Nat) : Int) == 37) = true := by simpa using h37
        have HG37 : Hid ((bs s)[k]? = some 37) := by unfold Hid; rw [HG.out, h37]
        clear h37 HG
        by_cases h3 : k + 3 ≤ s.size
        · have HG1 : Hid _ := bs_get s (k + 1) (by omega)
          have HG2 : Hid _ := bs_get s (k + 2) (by omega)
          have HS : Hid _ := HE'.out k _ _ HG37.out HG1.out HG2.out
          have h1 : k + 1 < s.size := by omega
          have h2 : k + 2 < s.size := by omega
          by_cases ha : hexB ((s[k + 1].toNat : Nat) : Int) = true
          · by_cases hb : hexB ((s[k + 2].toNat : Nat) : Int) = true
            · have HR : Hid (scan (bs o) ((bs s).drop (k + 3)) = V) := by
                unfold Hid; have := HS.out; rw [HV.out, ha, hb] at this; simpa using this.symm
              clear HS HG1 HG2
              go_wp2_with (go_at_call 11; refine (hex11 _ _).mono ?_; rintro e w' ⟨rfl, hw⟩; subst w')
              go_round
              case rel => exact ⟨k + 3, by omega, by go_num, HR.out⟩
              case measure => simp [intOf]; omega
            · have hb' : hexB ((s[k + 2].toNat : Nat) : Int) = false := by simpa using hb
              have HR : Hid (V = false) := by
                unfold Hid; have := HS.out; rw [HV.out, ha, hb'] at this; simpa using this
              clear HS HG1 HG2 hb
              go_wp2_with (go_at_call 11; refine (hex11 _ _).mono ?_; rintro e w' ⟨rfl, hw⟩; subst w')
              go_ret
              exact ⟨ret_bool HR.out.symm, rfl⟩
          · have ha' : hexB ((s[k + 1].toNat : Nat) : Int) = false := by simpa using ha
            have HR : Hid (V = false) := by
              unfold Hid; have := HS.out; rw [HV.out, ha'] at this; simpa using this
            clear HS HG1 HG2 ha
            go_wp2_with (go_at_call 11; refine (hex11 _ _).mono ?_; rintro e w' ⟨rfl, hw⟩; subst w')
            go_ret
            exact ⟨ret_bool HR.out.symm, rfl⟩
        · have HR : Hid (V = false) := by
            unfold Hid; have := HN'.out k HG37.out (by rw [bs_length]; omega); rw [HV.out] at this; exact this
          go_wp2_with (go_at_call 11; refine (hex11 _ _).mono ?_; rintro e w' ⟨rfl, hw⟩; subst w')
          go_ret
          exact ⟨ret_bool HR.out.symm, rfl⟩
      · have hb37 : (((s[k].toNat : Nat) : Int) == 37) = false := by simpa using h37
        have HS : Hid _ := HT'.out k _ HG.out h37
        have HI := HI'.out ((s[k].toNat : Nat) : Int)
        have HA := alnum12 ((s[k].toNat : Nat) : Int) w
        have HOk : Hid _ := HO.out ((s[k].toNat : Nat) : Int)
        have HV2 : Hid _ := HS.out.symm.trans HV.out
        clear h37 HG HS HV
        generalize ix ((s[k].toNat : Nat) : Int) (bs o) = j at HI HOk
        generalize (letB ((s[k].toNat : Nat) : Int) || digB ((s[k].toNat : Nat) : Int)) = ab at HA HOk
        rcases (show (okB (bs o) ((s[k].toNat : Nat) : Int) = true ∧ (ab = true ∨ (ab = false ∧ 0 ≤ j))) ∨ (okB (bs o) ((s[k].toNat : Nat) : Int) = false ∧ ab = false ∧ j < 0) from by
          rw [HOk.out]
          cases ab <;> simp <;> omega) with ⟨hok, h⟩ | ⟨hok, rfl, hj⟩
        · have HR : Hid (scan (bs o) ((bs s).drop (k + 1)) = V) := by
            unfold Hid; have := HV2.out; rw [hok] at this; simpa using this
          clear HOk hok HV2
          rcases h with rfl | ⟨rfl, hj⟩
          all_goals
            go_wp2_with (first
              | (go_at_call 12; refine HA.mono ?_; rintro e w' ⟨rfl, hw⟩; subst w')
              | (go_at_call 13; refine HI.mono ?_; rintro e w' ⟨rfl, hw⟩; subst w'))
            go_round
            case rel => exact ⟨k + 1, by omega, by go_num, HR.out⟩
            case measure => simp [intOf]; omega
        · have HR : Hid (V = false) := by
            unfold Hid; have := HV2.out; rw [hok] at this; simpa using this.symm
          clear HOk hok HV2
          go_wp2_with (first
            | (go_at_call 12; refine HA.mono ?_; rintro e w' ⟨rfl, hw⟩; subst w')
            | (go_at_call 13; refine HI.mono ?_; rintro e w' ⟨rfl, hw⟩; subst w'))
          go_ret
          exact ⟨ret_bool HR.out.symm, rfl⟩
    · obtain rfl : k = s.size := by omega
      have HR : Hid (V = true) := by
        unfold Hid; have := HV.out; rw [HZ.out] at this; exact this.symm
      go_wp2
      go_ret
      exact ⟨ret_bool HR.out.symm, rfl⟩

end Go.Proofs.Qxb6608519a.W
