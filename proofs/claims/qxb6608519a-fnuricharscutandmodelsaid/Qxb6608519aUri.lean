/-
  THE CONTRACT OF 'uriChars' (and 'ZZuriChars').
-/
import Derived.Test.Qxb6608519aPct
namespace Go.Proofs.Qxb6608519a.W
open Go.RowKit
open Go.Proofs.Qxb6608519a.Plain

def sizeOfStr : Value → Nat | .string s => s.size | _ => 0

set_option maxHeartbeats 1000000 in
theorem uri10 (s0 o : ByteArray) (hs0 : s0.size ≤ 65536) (w : World) : Calls Try.prog 10 #[.string s0, .string o] w fun e w' => e = .returned (.bool (scan (bs o) (bs s0))) ∧ w' = w := by
  have h0 : scan (bs o) (bs s0) = scan (bs o) (bs s0) := rfl
  generalize hV0 : scan (bs o) (bs s0) = V at h0 ⊢
  have H0 : Hid _ := hV0
  clear h0 hV0
  go_enter Try.func10, Try.ntmps10
  go_wp2
  go_loop [0] (fun v => ∃ s : ByteArray, s.size ≤ 65536 ∧ v = .string s ∧ scan (bs o) (bs s) = V) (fun v => sizeOfStr v)
  case atStart => exact ⟨s0, hs0, rfl, H0.out⟩
  case round =>
    obtain ⟨s, hs, rfl, hV⟩ := hrel
    have HI := index22 s 37 (by omega) (by omega) w
    by_cases hi : ix 37 (bs s) = -1
    · have HO := only15 s o hs w
      have HR : Hid ((bs s).all (okB (bs o)) = V) := by unfold Hid; rw [← hV, scan_none _ _ (ix_none 37 _ hi)]
      rw [hi] at HI
      clear hV hi
      go_wp2_with (first
        | (go_at_call 14; refine HI.mono ?_; rintro e w' ⟨rfl, hw⟩; subst w')
        | (go_at_call 15; refine HO.mono ?_; rintro e w' ⟨rfl, hw⟩; subst w'))
      go_ret
      exact ⟨ret_bool HR.out, rfl⟩
    · obtain ⟨n, hn⟩ : ∃ n : Nat, ix 37 (bs s) = n := ⟨(ix 37 (bs s)).toNat, by have := ix_lo 37 (bs s); omega⟩
      have hlt : n < s.size := by have := ix_hi 37 (bs s); rw [bs_length] at this; omega
      have HS : Hid _ := (scan_at (bs o) (bs s) n hn).symm.trans hV
      rw [hn] at HI
      have HO := only15 (s.extract 0 n) o (by simp; omega) w
      rw [bs_extract, List.drop_zero] at HO
      clear hV hi hn
      by_cases hall : ((bs s).take n).all (okB (bs o)) = true
      · rw [hall] at HO
        by_cases h2 : n + 2 < s.size
        · have h1 : n + 1 < s.size := by omega
          have g1 := bs_get s (n + 1) h1
          have g2 := bs_get s (n + 2) h2
          have hb1 := s[n + 1].toNat_lt
          have hb2 := s[n + 2].toNat_lt
          have HA := hex16 ((s[n + 1].toNat : Nat) : Int) (by omega) (by omega) w
          have HB := hex16 ((s[n + 2].toNat : Nat) : Int) (by omega) (by omega) w
          have HS2 : Hid ((hexB ((s[n + 1].toNat : Nat) : Int) && (hexB ((s[n + 2].toNat : Nat) : Int) && scan (bs o) ((bs s).drop (n + 3)))) = V) := by
            unfold Hid
            have := HS.out
            rw [hall, g1, g2, bs_length] at this
            simpa [h2] using this
          clear HS hall g1 g2 hb1 hb2
          by_cases ha : hexB ((s[n + 1].toNat : Nat) : Int) = true
          · by_cases hb : hexB ((s[n + 2].toNat : Nat) : Int) = true
            · have HR : Hid (scan (bs o) (bs (s.extract (n + 3) s.size)) = V) := by
                unfold Hid
                have := HS2.out
                rw [ha, hb] at this
                rw [bs_extract, List.take_of_length_le (by rw [bs_length]; omega)]
                simpa using this
              rw [ha] at HA
              rw [hb] at HB
              clear HS2 ha hb
              go_wp2_with (first
                | (go_at_call 14; refine HI.mono ?_; rintro e w' ⟨rfl, hw⟩; subst w')
                | (go_at_call 15; refine HO.mono ?_; rintro e w' ⟨rfl, hw⟩; subst w'))
              refine HA.mono ?_
              rintro e w' ⟨rfl, hw⟩; subst w'
              go_wp2_with (fail)
              refine HB.mono ?_
              rintro e w' ⟨rfl, hw⟩; subst w'
              go_wp2
              go_round
              case rel => exact ⟨s.extract (n + 3) s.size, by simp; omega, rfl, HR.out⟩
              case measure => simp [sizeOfStr]; omega
            · have hb' : hexB ((s[n + 2].toNat : Nat) : Int) = false := by simpa using hb
              have HR : Hid (V = false) := by
                unfold Hid
                have := HS2.out
                rw [ha, hb'] at this
                simpa using this
              rw [ha] at HA
              rw [hb'] at HB
              clear HS2 ha hb hb'
              go_wp2_with (first
                | (go_at_call 14; refine HI.mono ?_; rintro e w' ⟨rfl, hw⟩; subst w')
                | (go_at_call 15; refine HO.mono ?_; rintro e w' ⟨rfl, hw⟩; subst w'))
              refine HA.mono ?_
              rintro e w' ⟨rfl, hw⟩; subst w'
              go_wp2_with (fail)
              refine HB.mono ?_
              rintro e w' ⟨rfl, hw⟩; subst w'
              go_wp2
              go_ret
              exact ⟨ret_bool HR.out.symm, rfl⟩
          · have ha' : hexB ((s[n + 1].toNat : Nat) : Int) = false := by simpa using ha
            have HR : Hid (V = false) := by
              unfold Hid
              have := HS2.out
              rw [ha'] at this
              simpa using this
            rw [ha'] at HA
            clear HS2 ha ha' HB
            go_wp2_with (first
              | (go_at_call 14; refine HI.mono ?_; rintro e w' ⟨rfl, hw⟩; subst w')
              | (go_at_call 15; refine HO.mono ?_; rintro e w' ⟨rfl, hw⟩; subst w')
              | (go_at_call 16; refine HA.mono ?_; rintro e w' ⟨rfl, hw⟩; subst w'))
            go_ret
            exact ⟨ret_bool HR.out.symm, rfl⟩
        · have HR : Hid (V = false) := by
            unfold Hid
            have := HS.out
            rw [bs_length] at this
            simpa [h2] using this
          clear HS hall
          go_wp2_with (first
            | (go_at_call 14; refine HI.mono ?_; rintro e w' ⟨rfl, hw⟩; subst w')
            | (go_at_call 15; refine HO.mono ?_; rintro e w' ⟨rfl, hw⟩; subst w'))
          go_ret
          exact ⟨ret_bool HR.out.symm, rfl⟩
      · have hall' : ((bs s).take n).all (okB (bs o)) = false := by simpa using hall
        have HR : Hid (V = false) := by
          unfold Hid
          have := HS.out
          rw [hall'] at this
          simpa using this.symm
        rw [hall'] at HO
        clear HS hall hall'
        go_wp2_with (first
          | (go_at_call 14; refine HI.mono ?_; rintro e w' ⟨rfl, hw⟩; subst w')
          | (go_at_call 15; refine HO.mono ?_; rintro e w' ⟨rfl, hw⟩; subst w'))
        go_ret
        exact ⟨ret_bool HR.out.symm, rfl⟩

theorem zzuri6 (s o : ByteArray) (hs : s.size ≤ 65536) (w : World) : Calls Try.prog 6 #[.string s, .string o] w fun e w' => e = .returned (.bool (scan (bs o) (bs s))) ∧ w' = w := by
  have HU := uri10 s o hs w
  go_enter Try.func6, Try.ntmps6
  go_wp2_with (go_at_call 10; refine HU.mono ?_; rintro e w' ⟨rfl, hw⟩; subst w')
  go_ret
  exact ⟨rfl, rfl⟩

end Go.Proofs.Qxb6608519a.W
