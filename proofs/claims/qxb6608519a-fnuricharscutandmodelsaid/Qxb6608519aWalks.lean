/-
  THE SMALL CALLEES' CONTRACTS of 'FnURICharsCutAndModel'.
-/
import Derived.Test.Qxb6608519aRows
import Derived.Test.Qxb6608519aPlain
import Derived.WalkKit
import Derived.WalkSpells
import Derived.WalkLawsBesides
import Derived.Below
import Derived.Outline
import Derived.LoopTactic
import Derived.Lib.Bytealg
namespace Go.Proofs.Qxb6608519a.W
open Go.RowKit
open Go.Proofs.Qxb6608519a.Plain

theorem ret_bool {a b : Bool} (h : a = b) : Ending.returned (.bool a) = .returned (.bool b) := by rw [h]
theorem ret_int {k : IntKind} {a b : Int} (h : a = b) : Ending.returned (.int k a) = .returned (.int k b) := by rw [h]

theorem letter18 (x : Int) (w : World) : Calls Try.prog 18 #[.int .u8 x] w fun e w' => e = .returned (.bool (letB x)) ∧ w' = w := by
  go_enter Try.func18, Try.ntmps18
  go_wp2
  all_goals
    go_ret
    refine ⟨ret_bool ?_, rfl⟩
    unfold letB
    rw [Bool.eq_iff_iff]
    simp
    omega

theorem letter20 (x : Int) (w : World) : Calls Try.prog 20 #[.int .u8 x] w fun e w' => e = .returned (.bool (letB x)) ∧ w' = w := by
  go_enter Try.func20, Try.ntmps20
  go_wp2
  all_goals
    go_ret
    refine ⟨ret_bool ?_, rfl⟩
    unfold letB
    rw [Bool.eq_iff_iff]
    simp
    omega

theorem digit17 (x : Int) (w : World) : Calls Try.prog 17 #[.int .u8 x] w fun e w' => e = .returned (.bool (digB x)) ∧ w' = w := by
  go_enter Try.func17, Try.ntmps17
  go_wp2
  all_goals
    go_ret
    refine ⟨ret_bool ?_, rfl⟩
    unfold digB
    rw [Bool.eq_iff_iff]
    simp
    omega

theorem digit21 (x : Int) (w : World) : Calls Try.prog 21 #[.int .u8 x] w fun e w' => e = .returned (.bool (digB x)) ∧ w' = w := by
  go_enter Try.func21, Try.ntmps21
  go_wp2
  all_goals
    go_ret
    refine ⟨ret_bool ?_, rfl⟩
    unfold digB
    rw [Bool.eq_iff_iff]
    simp
    omega

theorem alnum12 (x : Int) (w : World) : Calls Try.prog 12 #[.int .u8 x] w fun e w' => e = .returned (.bool (letB x || digB x)) ∧ w' = w := by
  go_enter Try.func12, Try.ntmps12
  go_wp2_with (first
    | (go_at_call 18; refine (letter18 _ _).mono ?_; rintro e w' ⟨rfl, hw⟩; subst w')
    | (go_at_call 17; refine (digit17 _ _).mono ?_; rintro e w' ⟨rfl, hw⟩; subst w'))
  all_goals
    go_ret
    refine ⟨ret_bool ?_, rfl⟩
    simp [*]

theorem hex11 (x : Int) (w : World) : Calls Try.prog 11 #[.int .u8 x] w fun e w' => e = .returned (.bool (hexB x)) ∧ w' = w := by
  go_enter Try.func11, Try.ntmps11
  go_wp2_with (go_at_call 17; refine (digit17 _ _).mono ?_; rintro e w' ⟨rfl, hw⟩; subst w')
  all_goals
    go_ret
    refine ⟨ret_bool ?_, rfl⟩
    unfold hexB
    first
      | (have hd : digB x = true := by assumption
         simp [hd])
      | (have hd : digB x = false := by simpa using (show ¬ digB x = true by assumption)
         rw [hd, Bool.eq_iff_iff]
         simp
         omega)

theorem index22 (s : ByteArray) (x : Int) (h0 : 0 ≤ x) (h1 : x ≤ 255) (w : World) : Calls Try.prog 14 #[.string s, .int .u8 x] w fun e w' => e = .returned (.int .i64 (ix x (bs s))) ∧ w' = w := by
  have hr := Lib.run_indexByteString (P := Try.prog) s x w
  rw [ix_lib x s h0 h1] at hr
  go_enter Try.func14, Try.ntmps14
  go_wp2
  rw [run_callFunc_extern Try.func22 (by kernel_rfl) (by kernel_rfl) (by kernel_rfl) (e := Extern.BytealgIndexByte.indexByte) (by kernel_rfl), hr]
  simp only [Result.andThen]
  rw [Oper.upon_value]
  go_wp2
  go_ret
  exact ⟨rfl, rfl⟩

theorem hex_lit (x : Int) (h0 : 0 ≤ x) (h1 : x ≤ 255) : (0 ≤ ix x [48, 49, 50, 51, 52, 53, 54, 55, 56, 57, 97, 98, 99, 100, 101, 102, 65, 66, 67, 68, 69, 70]) ↔ hexB x = true := by
  have := hex_ix ⟨x.toNat, by omega⟩
  simp only [Int.toNat_of_nonneg h0] at this
  rw [← this, decide_eq_true_eq]

theorem hex16 (x : Int) (h0 : 0 ≤ x) (h1 : x ≤ 255) (w : World) : Calls Try.prog 16 #[.int .u8 x] w fun e w' => e = .returned (.bool (hexB x)) ∧ w' = w := by
  have HX : Hid _ := hex_lit x h0 h1
  have HI := index22 ⟨#[48, 49, 50, 51, 52, 53, 54, 55, 56, 57, 97, 98, 99, 100, 101, 102, 65, 66, 67, 68, 69, 70]⟩ x h0 h1 w
  rw [show bs ⟨#[48, 49, 50, 51, 52, 53, 54, 55, 56, 57, 97, 98, 99, 100, 101, 102, 65, 66, 67, 68, 69, 70]⟩ = [48, 49, 50, 51, 52, 53, 54, 55, 56, 57, 97, 98, 99, 100, 101, 102, 65, 66, 67, 68, 69, 70] from rfl] at HI
  generalize ix x [48, 49, 50, 51, 52, 53, 54, 55, 56, 57, 97, 98, 99, 100, 101, 102, 65, 66, 67, 68, 69, 70] = j at HI HX
  go_enter Try.func16, Try.ntmps16
  go_wp2_with (go_at_call 14; refine HI.mono ?_; rintro e w' ⟨rfl, hw⟩; subst w')
  go_ret
  refine ⟨ret_bool ?_, rfl⟩
  rw [Bool.eq_iff_iff, ← HX.out]
  simp

set_option maxHeartbeats 400000 in
theorem index13 (s : ByteArray) (x : Int) (hs : s.size ≤ 1048576) (w : World) : Calls Try.prog 13 #[.string s, .int .u8 x] w fun e w' => e = .returned (.int .i64 (ix x (bs s))) ∧ w' = w := by
  go_enter Try.func13, Try.ntmps13
  go_wp2
  go_loop [5] (fun i => ∃ k : Nat, k ≤ s.size ∧ i = .int .i64 k ∧ ∀ y ∈ (bs s).take k, y ≠ x) (fun i => s.size - (intOf i).toNat)
  case atStart => exact ⟨0, Nat.zero_le _, rfl, by simp⟩
  case round =>
    obtain ⟨k, hk, rfl, hno⟩ := hrel
    by_cases hlt : k < s.size
    · have hg := bs_get s k hlt
      have HN : Hid (∀ y ∈ (bs s).take k, y ≠ x) := hno
      have HG : Hid _ := hg
      clear hg hno
      go_wp2
      · go_ret
        have hx : ((s[k].toNat : Nat) : Int) = x := by simpa using (show (((s[k].toNat : Nat) : Int) == x) = true by assumption)
        exact ⟨ret_int (ix_of x (bs s) k HN.out (by rw [HG.out, hx])).symm, rfl⟩
      · go_round
        case rel =>
          have hx : ¬ ((s[k].toNat : Nat) : Int) = x := by simpa using (show (((s[k].toNat : Nat) : Int) == x) = false by assumption)
          refine ⟨k + 1, by omega, by go_num, fun y hy => ?_⟩
          rw [List.take_add_one, HG.out] at hy
          simp only [Option.toList_some, List.mem_append, List.mem_singleton] at hy
          rcases hy with hy | rfl
          · exact HN.out y hy
          · exact hx
        case measure => simp [intOf]; omega
    · have HF : Hid (ix x (bs s) = -1) := ix_not x (bs s) (by rw [List.take_of_length_le (by rw [bs_length]; omega)] at hno; exact hno)
      clear hno
      go_wp2
      go_ret
      exact ⟨ret_int HF.out.symm, rfl⟩

end Go.Proofs.Qxb6608519a.W
