/-
  THE LAW's OWN WALK at a slice that is not nil.
-/
import Derived.Test.Qxb6601353aLaw
namespace Go.Proofs.Qxb6601353a.W
open Go.RowKit
open Go.Proofs.Qxb6601353a.Plain

theorem seg_of {w : World} {B n s k : Nat} {xs : List Int} (hx : xs.length = n) (hc : ∀ i, i < n → w.cell? ⟨B, i, none⟩ = some (.int .u8 (xs.getD i 0))) (hs : s ≤ k) (hk : k ≤ n) :
    Seg w (some ⟨B, s, none⟩) (k - s) ((xs.take k).drop s) := by
  refine ⟨by simp; omega, .inr ⟨B, s, rfl, fun i hi => ?_⟩⟩
  rw [hc (s + i) (by omega)]
  simp only [List.getD_eq_getElem?_getD, List.getElem?_drop, List.getElem?_take]
  rw [if_pos (by omega)]

set_option maxHeartbeats 1000000 in
theorem law_any (a0 : Int) (a1 : Bool) (a2 : Int) (x : Addr) (n c : Nat) (xs : List Int) (w : World) (hx : xs.length = n) (hn : n ≤ 1048576) (hb : ∀ x ∈ xs, 0 ≤ x ∧ x ≤ 255)
    (hc0 : n = 0 ∨ ∃ b o, x = ⟨b, o, none⟩ ∧ ∀ i, i < n → w.cell? ⟨b, o + i, none⟩ = some (.int .u8 (xs.getD i 0))) :
    Calls Try.prog 4 #[.int .i64 a0, .bool a1, .int .u8 a2, .slice (some x) n c] w fun e w' => e = .returned (.bool true) ∧ Below w.heap.size w w' := by
  have HCp := copy_any x n c xs w hx hn hc0
  clear hc0
  go_enter Try.func4, Try.ntmps4
  go_wp2_with (first
    | (go_at_call 10; refine (bytes_yes _ _ _ _ _ _ _ hn).mono ?_; rintro e w' ⟨rfl, hw⟩; subst w')
    | (go_at_call 11; refine HCp.mono ?_; rintro e w1 ⟨rfl, hown, hbel⟩))
  have hlt : w.heap.size < w1.heap.size := by
    rcases hown.2 with ⟨h, _⟩ | ⟨g, cap, cur, hv, _, hh, _⟩
    · simp at h
    · simp at hv
      obtain ⟨rfl, _⟩ := hv
      exact (Array.getElem?_eq_some_iff.1 hh).1
  have hc1 : ∀ i, i < n → w1.cell? ⟨w.heap.size, i, none⟩ = some (.int .u8 (xs.getD i 0)) := fun i hi => by
    rw [hown.cellAt i (by omega)]
    simp [List.getElem?_eq_getElem (show i < xs.length by omega)]
  have HZ := zz_any w.heap.size a0 a1 a2 n xs w1 hx hn (fun i hi => by rw [Nat.zero_add]; exact hc1 i hi) hb hlt
  have HR : Hid (go [] xs a0 a2 = ((go [] xs a0 a2).1, (go [] xs a0 a2).2)) := rfl
  generalize (go [] xs a0 a2).1 = R at HZ HR
  generalize (go [] xs a0 a2).2 = L at HZ HR
  clear hown HCp
  have HB : Hid _ := hbel
  have H1 : Hid _ := hc1
  clear hbel hc1
  go_wp2_with (go_at_call 12; refine HZ.mono ?_; rintro e w2 ⟨rfl, hbel2⟩)
  have hc2 : ∀ i, i < n → w2.cell? ⟨w.heap.size, i, none⟩ = some (.int .u8 (xs.getD i 0)) := fun i hi =>
    (hbel2.cell (p := ⟨w.heap.size, i, none⟩) hlt).trans (H1.out i hi)
  have HB2 : Hid (Below w.heap.size w w2) := HB.out.trans (hbel2.mono (by omega))
  have H2 : Hid _ := hc2
  clear hbel2 hc2 HZ hlt HB H1
  go_loop [12, 13, 14, 15] (fun wa ca sa ja => ∃ (k s : Nat) (r l : Int), s ≤ k ∧ k ≤ n ∧ wa = .int .i64 r ∧ ca = .int .u8 l ∧ sa = .int .i64 s ∧ ja = .int .i64 k ∧ go ((xs.take k).drop s) (xs.drop k) r l = (R, L))
    (fun _ _ _ ja => n - (intOf ja).toNat)
  case atStart => exact ⟨0, 0, a0, a2, Nat.le_refl _, Nat.zero_le _, rfl, rfl, rfl, rfl, HR.out⟩
  case round =>
    obtain ⟨k, s, r, l, hs, hk, rfl, rfl, rfl, rfl, hgo⟩ := hrel
    by_cases hlt : k < n
    · have hstep := go_step xs s k r l hs (by omega)
      rw [hgo] at hstep
      have HST : Hid _ := hstep
      have hcell := H2.out k hlt
      rw [List.getD_eq_getElem?_getD] at hcell
      have HSeg := seg_of hx H2.out hs hk
      have hns : ¬ n = s := by omega
      have HRec := rec_any l (some ⟨w.heap.size, s, none⟩) (k - s) (n - s) _ w2 HSeg
      generalize hx0 : xs[k]?.getD 0 = x0 at hcell HST
      clear hstep hgo hx0 hx hb HSeg
      by_cases h10 : x0 = 10
      · have HE : Hid ((R, L) = go [] (xs.drop (k + 1)) (inc r l ((xs.take k).drop s)) 0) := by
          have := HST.out; rw [if_pos h10] at this; exact this
        subst h10
        by_cases hB : recB l ((xs.take k).drop s) = true
        · rw [hB] at HRec
          have HI : Hid (inc r l ((xs.take k).drop s) = wrap64 (r + 1)) := by
            unfold Hid inc; unfold recB at hB; rw [if_pos (by simpa using hB)]
          clear hB HST
          go_wp2_with (go_at_call 13; refine HRec.mono ?_; rintro e w' ⟨rfl, hw⟩; subst w')
          go_round
          case rel => exact ⟨k + 1, k + 1, _, _, Nat.le_refl _, by omega, rfl, rfl, by go_num, by go_num, by rw [HE.out, HI.out, List.drop_eq_nil_of_le (by simp; omega)]⟩
          case measure => simp [intOf]; omega
        · rw [show recB l ((xs.take k).drop s) = false by simpa using hB] at HRec
          have HI : Hid (inc r l ((xs.take k).drop s) = r) := by
            unfold Hid inc; unfold recB at hB; rw [if_neg (by simpa using hB)]
          clear hB HST
          go_wp2_with (go_at_call 13; refine HRec.mono ?_; rintro e w' ⟨rfl, hw⟩; subst w')
          go_round
          case rel => exact ⟨k + 1, k + 1, _, _, Nat.le_refl _, by omega, rfl, rfl, by go_num, by go_num, by rw [HE.out, HI.out, List.drop_eq_nil_of_le (by simp; omega)]⟩
          case measure => simp [intOf]; omega
      · have HE : Hid ((R, L) = go ((xs.take (k + 1)).drop s) (xs.drop (k + 1)) r l) := by
          have := HST.out; rw [if_neg h10] at this; exact this
        have h10' : (x0 == 10) = false := by simpa using h10
        clear HRec HST h10
        go_wp2
        go_round
        case rel => exact ⟨k + 1, s, _, _, by omega, by omega, rfl, rfl, rfl, by go_num, HE.out.symm⟩
        case measure => simp [intOf]; omega
    · obtain rfl : k = n := by omega
      have HSeg := seg_of hx H2.out hs (Nat.le_refl _)
      rw [List.take_of_length_le (by omega)] at HSeg hgo
      rw [show xs.drop k = [] from List.drop_eq_nil_of_le (by omega)] at hgo
      simp only [go, Prod.mk.injEq] at hgo
      obtain ⟨rfl, hL⟩ := hgo
      have HSt := fun a c h => state_any l a (k - s) c _ w2 ⟨HSeg.1, h⟩
      have HSeg2 := HSeg.2
      rw [hL] at HSt
      clear hL HSeg hx hb
      by_cases hks : k = s
      · subst hks
        have HS0 := HSt (some ⟨w.heap.size, 0, none⟩) 0 (.inl (by omega))
        rw [Nat.sub_self] at HS0
        clear HSt HSeg2
        go_wp2_with (go_at_call 14; refine HS0.mono ?_; rintro e w' ⟨rfl, hw⟩; subst w')
        go_ret
        exact ⟨rfl, HB2.out⟩
      · have HS0 := HSt (some ⟨w.heap.size, s, none⟩) (k - s) HSeg2
        clear HSt HSeg2
        go_wp2_with (go_at_call 14; refine HS0.mono ?_; rintro e w' ⟨rfl, hw⟩; subst w')
        go_ret
        exact ⟨rfl, HB2.out⟩

end Go.Proofs.Qxb6601353a.W
