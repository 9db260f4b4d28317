/-
  THE CONTRACTS OF 'onlyChars', 'zzBytes_..', 'zzPctText'.
-/
import Derived.Test.Qxb6608519aWalks
namespace Go.Proofs.Qxb6608519a.W
open Go.RowKit
open Go.Proofs.Qxb6608519a.Plain

theorem bytes_yes (s o : ByteArray) (k : Int) (hs : s.size ≤ 65536) (ho : o.size ≤ 65536) (w : World) : Calls Try.prog 5 #[.string s, .string o, .int .i64 k] w fun e w' => e = .returned (.bool true) ∧ w' = w := by
  go_enter Try.func5, Try.ntmps5
  go_wp2
  go_ret
  exact ⟨rfl, rfl⟩

theorem bytes_any (s o : ByteArray) (k : Int) (hs : s.size ≤ maxLen) (ho : o.size ≤ maxLen) (w : World) : Calls Try.prog 5 #[.string s, .string o, .int .i64 k] w fun e w' => ∃ b, e = .returned (.bool b) ∧ w' = w := by
  unfold maxLen at hs ho
  go_enter Try.func5, Try.ntmps5
  go_wp2
  all_goals
    go_ret
    exact ⟨_, rfl, rfl⟩

set_option maxHeartbeats 1000000 in
theorem only15 (s o : ByteArray) (hs : s.size ≤ 65536) (w : World) : Calls Try.prog 15 #[.string s, .string o] w fun e w' => e = .returned (.bool ((bs s).all (okB (bs o)))) ∧ w' = w := by
  go_enter Try.func15, Try.ntmps15
  go_wp2
  go_loop [5] (fun i => ∃ k : Nat, k ≤ s.size ∧ i = .int .i64 k ∧ ((bs s).take k).all (okB (bs o)) = true) (fun i => s.size - (intOf i).toNat)
  case atStart => exact ⟨0, Nat.zero_le _, rfl, by simp⟩
  case round =>
    obtain ⟨k, hk, rfl, hall⟩ := hrel
    by_cases hlt : k < s.size
    · have hg := bs_get s k hlt
      have HA : Hid _ := all_take (bs o) (bs s) k _ hg
      have HG : Hid _ := hg
      have HP : Hid _ := hall
      have hb := (s[k]).toNat_lt
      have HL := letter20 ((s[k].toNat : Nat) : Int) w
      have HD := digit21 ((s[k].toNat : Nat) : Int) w
      have HX := index22 o ((s[k].toNat : Nat) : Int) (by omega) (by omega) w
      have HO : Hid (okB (bs o) ((s[k].toNat : Nat) : Int) = (letB ((s[k].toNat : Nat) : Int) || digB ((s[k].toNat : Nat) : Int) || decide (0 ≤ ix ((s[k].toNat : Nat) : Int) (bs o)))) := rfl
      clear hg hall hb
      generalize ix ((s[k].toNat : Nat) : Int) (bs o) = j at HX HO
      generalize letB ((s[k].toNat : Nat) : Int) = lb at HL HO
      generalize digB ((s[k].toNat : Nat) : Int) = db at HD HO
      rcases (show (okB (bs o) ((s[k].toNat : Nat) : Int) = true ∧ (lb = true ∨ (lb = false ∧ db = true) ∨ (lb = false ∧ db = false ∧ 0 ≤ j))) ∨ (okB (bs o) ((s[k].toNat : Nat) : Int) = false ∧ lb = false ∧ db = false ∧ j < 0) from by
        rw [HO.out]
        cases lb <;> cases db <;> simp <;> omega) with ⟨hok, h⟩ | ⟨hok, rfl, rfl, hj⟩
      · have HK : Hid _ := hok
        clear HO hok
        rcases h with rfl | ⟨rfl, rfl⟩ | ⟨rfl, rfl, hj⟩
        all_goals
          go_wp2_with (first
            | (go_at_call 20; refine HL.mono ?_; rintro e w' ⟨rfl, hw⟩; subst w')
            | (go_at_call 21; refine HD.mono ?_; rintro e w' ⟨rfl, hw⟩; subst w')
            | (go_at_call 14; refine HX.mono ?_; rintro e w' ⟨rfl, hw⟩; subst w'))
          go_round
          case rel => exact ⟨k + 1, by omega, by go_num, by rw [HA.out, HP.out, HK.out]; rfl⟩
          case measure => simp [intOf]; omega
      · have HF : Hid ((bs s).all (okB (bs o)) = false) := by
          unfold Hid
          rw [List.all_eq_false]
          exact ⟨_, List.mem_of_getElem? HG.out, by simp [hok]⟩
        clear HO hok
        go_wp2_with (first
          | (go_at_call 20; refine HL.mono ?_; rintro e w' ⟨rfl, hw⟩; subst w')
          | (go_at_call 21; refine HD.mono ?_; rintro e w' ⟨rfl, hw⟩; subst w')
          | (go_at_call 14; refine HX.mono ?_; rintro e w' ⟨rfl, hw⟩; subst w'))
        go_ret
        exact ⟨ret_bool HF.out.symm, rfl⟩
    · have HF : Hid ((bs s).all (okB (bs o)) = true) := by
        rw [List.take_of_length_le (by rw [bs_length]; omega)] at hall; exact hall
      clear hall
      go_wp2
      go_ret
      exact ⟨ret_bool HF.out.symm, rfl⟩

end Go.Proofs.Qxb6608519a.W
