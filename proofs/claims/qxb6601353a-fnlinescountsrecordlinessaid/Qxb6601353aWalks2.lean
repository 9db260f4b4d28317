/-
  THE CALLEES' CONTRACTS of 'FnLinesCountsRecordLines': the two case tables.
-/
import Derived.Test.Qxb6601353aWalks
namespace Go.Proofs.Qxb6601353a.W
open Go.RowKit
open Go.Proofs.Qxb6601353a.Plain

/-- A slice whose elements are 'xs': no element (whatever it leads to), or cells that hold them. -/
def Seg (w : World) (a : Option Addr) (n : Nat) (xs : List Int) : Prop :=
  xs.length = n ∧ (n = 0 ∨ ∃ b o, a = some ⟨b, o, none⟩ ∧ ∀ i, i < n → w.cell? ⟨b, o + i, none⟩ = some (.int .u8 (xs.getD i 0)))

def recB (l : Int) (xs : List Int) : Bool := decide (st l xs = 2)

theorem ret_bool {a b : Bool} (h : a = b) : Ending.returned (.bool a) = .returned (.bool b) := by rw [h]
theorem ret_int {k : IntKind} {a b : Int} (h : a = b) : Ending.returned (.int k a) = .returned (.int k b) := by rw [h]

set_option maxHeartbeats 400000 in
theorem rec_any (l : Int) (a : Option Addr) (n c : Nat) (xs : List Int) (w : World) (hs : Seg w a n xs) :
    Calls Try.prog 13 #[.int .u8 l, .slice a n c] w fun e w' => e = .returned (.bool (recB l xs)) ∧ w' = w := by
  obtain ⟨hn, hs⟩ := hs
  by_cases h2 : 2 ≤ n
  · have HF : Hid (true = recB l xs) := by
      unfold Hid recB st
      rw [if_neg (by omega), if_neg (by omega)]; rfl
    clear hs
    go_enter Try.func13, Try.ntmps13
    go_wp2
    go_ret
    exact ⟨ret_bool HF.out, rfl⟩
  · by_cases h1 : n = 1
    · subst h1
      obtain ⟨x, rfl⟩ := List.length_eq_one_iff.1 hn
      rcases hs with hs | ⟨b, o, rfl, hc⟩
      · omega
      have h0 : w.cell? ⟨b, o, none⟩ = some (.int .u8 x) := by simpa using hc 0 (by omega)
      clear hc h2 hn
      by_cases hx : x = 13
      · subst hx
        have HF : Hid ((l != 0) = recB l [13]) := by
          unfold Hid recB st
          by_cases hl : l = 0 <;> simp [hl]
        go_enter Try.func13, Try.ntmps13
        go_wp2
        go_ret
        exact ⟨ret_bool HF.out, rfl⟩
      · have HF : Hid (true = recB l [x]) := by
          unfold Hid recB st
          simp [hx]
        have hx' : (x != 13) = true := by simpa using hx
        clear hx
        go_enter Try.func13, Try.ntmps13
        go_wp2
        go_ret
        exact ⟨ret_bool HF.out, rfl⟩
    · obtain rfl : n = 0 := by omega
      obtain rfl := List.length_eq_zero_iff.1 hn
      have HF : Hid ((l == 2) = recB l []) := by
        unfold Hid recB st
        rw [Bool.eq_iff_iff]; simp
      clear h1 h2 hn hs
      go_enter Try.func13, Try.ntmps13
      go_wp2
      go_ret
      exact ⟨ret_bool HF.out, rfl⟩

set_option maxHeartbeats 400000 in
theorem state_any (l : Int) (a : Option Addr) (n c : Nat) (xs : List Int) (w : World) (hs : Seg w a n xs) :
    Calls Try.prog 14 #[.int .u8 l, .slice a n c] w fun e w' => e = .returned (.int .u8 (st l xs)) ∧ w' = w := by
  obtain ⟨hn, hs⟩ := hs
  by_cases h2 : 2 ≤ n
  · have HF : Hid (2 = st l xs) := by
      unfold Hid st
      rw [if_neg (by omega), if_neg (by omega)]
    clear hs
    go_enter Try.func14, Try.ntmps14
    go_wp2
    go_ret
    exact ⟨ret_int HF.out, rfl⟩
  · by_cases h1 : n = 1
    · subst h1
      obtain ⟨x, rfl⟩ := List.length_eq_one_iff.1 hn
      rcases hs with hs | ⟨b, o, rfl, hc⟩
      · omega
      have h0 : w.cell? ⟨b, o, none⟩ = some (.int .u8 x) := by simpa using hc 0 (by omega)
      clear hc h2 hn
      by_cases hx : x = 13
      · subst hx
        by_cases hl : l = 0
        · subst hl
          have HF : Hid (1 = st 0 [13]) := by
            unfold Hid st
            simp
          go_enter Try.func14, Try.ntmps14
          go_wp2
          go_ret
          exact ⟨ret_int HF.out, rfl⟩
        · have HF : Hid (2 = st l [13]) := by
            unfold Hid st
            simp [hl]
          have hl' : (l == 0) = false := by simpa using hl
          clear hl
          go_enter Try.func14, Try.ntmps14
          go_wp2
          go_ret
          exact ⟨ret_int HF.out, rfl⟩
      · have HF : Hid (2 = st l [x]) := by
          unfold Hid st
          simp [hx]
        have hx' : (x == 13) = false := by simpa using hx
        clear hx
        go_enter Try.func14, Try.ntmps14
        go_wp2
        go_ret
        exact ⟨ret_int HF.out, rfl⟩
    · obtain rfl : n = 0 := by omega
      obtain rfl := List.length_eq_zero_iff.1 hn
      have HF : Hid (l = st l []) := by
        unfold Hid st
        simp
      clear h1 h2 hn hs
      go_enter Try.func14, Try.ntmps14
      go_wp2
      go_ret
      exact ⟨ret_int HF.out, rfl⟩

end Go.Proofs.Qxb6601353a.W
