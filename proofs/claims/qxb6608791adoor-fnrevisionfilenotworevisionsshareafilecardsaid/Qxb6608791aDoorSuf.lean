/-
  THE CONTRACTS OF 'hasSuffix' AND 'plainName'.
-/
import Derived.Test.Qxb6608791aDoorWalks
namespace Go.Proofs.Qxb6608791aDoor.W
open Go.RowKit
open Go.Proofs.Qxb6608791aDoor.Plain

theorem ret_bool {a b : Bool} (h : a = b) : Ending.returned (.bool a) = .returned (.bool b) := by rw [h]

theorem suffix_yes (s t : ByteArray) (w : World) (hs : s.size ≤ 4194304) (ht : t.size ≤ 4194304) (p : List UInt8) (h : s.data.toList = p ++ t.data.toList) :
    Calls Tryd.prog 9 #[.string s, .string t] w fun e w' => e = .returned (.bool true) ∧ w' = w := by
  have hlen : s.size = p.length + t.size := by
    have := congrArg List.length h
    simpa using this
  have hle : t.size ≤ s.size := by omega
  have HE : Hid ((s.extract (s.size - t.size) s.size).toList = t.toList) := by
    unfold Hid
    rw [Lib.toList_data, Lib.toList_data, ByteArray.data_extract, Array.toList_extract, List.extract_eq_take_drop, h]
    rw [hlen, show p.length + t.size - t.size = p.length by omega, List.drop_left, List.take_of_length_le (by simp)]
  clear hlen h
  go_enter Tryd.func9, Tryd.ntmps9
  go_wp2
  go_ret
  exact ⟨ret_bool (by rw [HE.out]; simp), rfl⟩

set_option maxHeartbeats 1000000 in
theorem plain10 (s : ByteArray) (w : World) (hs : s.size ≤ 1048576) :
    Calls Tryd.prog 10 #[.string s] w fun e w' => e = .returned (.bool (plainB s.data.toList)) ∧ w' = w := by
  by_cases h0 : s.toList.isEmpty = true
  · have HF : Hid (plainB s.data.toList = false) := by
      unfold Hid; rw [Lib.toList_data] at h0; rw [List.isEmpty_iff.1 h0]; rfl
    go_enter Tryd.func10, Tryd.ntmps10
    go_wp2
    all_goals go_ret
    all_goals exact ⟨ret_bool HF.out.symm, rfl⟩
  by_cases h1 : (s.toList == [46]) = true
  · have HF : Hid (plainB s.data.toList = false) := by
      unfold Hid; rw [Lib.toList_data] at h1; rw [eq_of_beq h1]; rfl
    go_enter Tryd.func10, Tryd.ntmps10
    go_wp2
    all_goals go_ret
    all_goals exact ⟨ret_bool HF.out.symm, rfl⟩
  by_cases h2 : (s.toList == [46, 46]) = true
  · have HF : Hid (plainB s.data.toList = false) := by
      unfold Hid; rw [Lib.toList_data] at h2; rw [eq_of_beq h2]; rfl
    have h1' : (s.toList == [46]) = false := by simpa using h1
    have h0' : s.toList.isEmpty = false := by simpa using h0
    clear h0 h1
    go_enter Tryd.func10, Tryd.ntmps10
    go_wp2
    all_goals go_ret
    all_goals exact ⟨ret_bool HF.out.symm, rfl⟩
  have h2' : (s.toList == [46, 46]) = false := by simpa using h2
  have h1' : (s.toList == [46]) = false := by simpa using h1
  have h0' : s.toList.isEmpty = false := by simpa using h0
  have HP : Hid (plainB s.data.toList = !(s.data.toList.contains 47)) := by
    rw [Lib.toList_data] at h0' h1' h2'
    have e0 : (s.data.toList == []) = false := by
      cases hl : s.data.toList with
      | nil => rw [hl] at h0'; cases h0'
      | cons a l => rfl
    unfold Hid plainB
    rw [e0, h1', h2']
    simp
  clear h0 h1 h2
  go_enter Tryd.func10, Tryd.ntmps10
  go_wp2
  go_loop [3] (fun i => ∃ k : Nat, k ≤ s.size ∧ i = .int .i64 k ∧ (47 : UInt8) ∉ s.data.toList.take k) (fun i => s.size - (intOf i).toNat)
  case atStart => exact ⟨0, Nat.zero_le _, rfl, by simp⟩
  case round =>
    obtain ⟨k, hk, rfl, hno⟩ := hrel
    have HN : Hid _ := hno
    clear hno
    by_cases hlt : k < s.size
    · have hget : s.data.toList[k]? = some s[k] := by
        have h' : k < s.data.size := hlt
        rw [Array.getElem?_toList, Array.getElem?_eq_getElem h']
        rfl
      have HG : Hid _ := hget
      clear hget
      by_cases h47 : ((s[k].toNat : Nat) : Int) = 47
      · have hb : (((s[k].toNat : Nat) : Int) == 47) = true := by simpa using h47
        have HF : Hid (plainB s.data.toList = false) := by
          unfold Hid
          rw [HP.out]
          have : s[k] = 47 := by
            rw [← UInt8.toNat_inj]; have : s[k].toNat = 47 := by omega
            simpa using this
          have hm : (47 : UInt8) ∈ s.data.toList := by rw [← this]; exact List.mem_of_getElem? HG.out
          simpa using hm
        clear h47
        go_wp2
        go_ret
        exact ⟨ret_bool HF.out.symm, rfl⟩
      · have hb : (((s[k].toNat : Nat) : Int) == 47) = false := by simpa using h47
        have HS : Hid ((47 : UInt8) ∉ s.data.toList.take (k + 1)) := by
          unfold Hid
          rw [List.take_add_one, HG.out]
          simp only [Option.toList_some, List.mem_append, List.mem_singleton, not_or]
          refine ⟨HN.out, fun e => h47 ?_⟩
          rw [← e]; rfl
        clear h47
        go_wp2
        go_round
        case rel => exact ⟨k + 1, by omega, by go_num, HS.out⟩
        case measure => simp [intOf]; omega
    · have HF : Hid (plainB s.data.toList = true) := by
        unfold Hid
        rw [HP.out]
        have := HN.out
        rw [List.take_of_length_le (by simp; omega)] at this
        simpa using this
      go_wp2
      go_ret
      exact ⟨ret_bool HF.out.symm, rfl⟩

end Go.Proofs.Qxb6608791aDoor.W
