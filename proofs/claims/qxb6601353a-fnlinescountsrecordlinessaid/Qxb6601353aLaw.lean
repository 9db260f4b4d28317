/-
  THE LAW's OWN WALK: three cases (too long; nil; a slice).
-/
import Derived.Test.Qxb6601353aZZ
namespace Go.Proofs.Qxb6601353a.W
open Go.RowKit
open Go.Proofs.Qxb6601353a.Plain

theorem law_long (a0 : Int) (a1 : Bool) (a2 : Int) (a : Option Addr) (n c : Nat) (w : World) (h : 1048576 < n) :
    Calls Try.prog 4 #[.int .i64 a0, .bool a1, .int .u8 a2, .slice a n c] w fun e w' => e = .returned (.bool true) ∧ Below w.heap.size w w' := by
  go_enter Try.func4, Try.ntmps4
  go_wp2_with (go_at_call 10; refine (bytes_no _ _ _ _ _ _ _ h).mono ?_; rintro e w' ⟨rfl, rfl⟩)
  go_ret
  exact ⟨rfl, Below.refl _ _⟩

set_option maxHeartbeats 400000 in
theorem law_nil (a0 : Int) (a1 : Bool) (a2 : Int) (w : World) :
    Calls Try.prog 4 #[.int .i64 a0, .bool a1, .int .u8 a2, .slice none 0 0] w fun e w' => e = .returned (.bool true) ∧ Below w.heap.size w w' := by
  have HZ := zz_nil a0 a1 a2 w
  have hg : go [] [] a0 a2 = (a0, a2) := rfl
  rw [hg] at HZ
  clear hg
  have HS : ∀ w2 : World, Calls Try.prog 14 #[.int .u8 a2, .slice none 0 0] w2 fun e w' => e = .returned (.int .u8 a2) ∧ w' = w2 := fun w2 => by
    have := state_any a2 none 0 0 [] w2 ⟨rfl, .inl rfl⟩
    exact this
  go_enter Try.func4, Try.ntmps4
  go_wp2_with (first
    | (go_at_call 10; refine (bytes_yes _ _ _ _ _ _ _ (by omega)).mono ?_; rintro e w' ⟨rfl, rfl⟩)
    | (go_at_call 11; refine (copy_nil _).mono ?_; rintro e w' ⟨rfl, rfl⟩)
    | (go_at_call 12; refine HZ.mono ?_; rintro e w' ⟨rfl, hbel⟩))
  refine wp_loop_rounds 1 ?_
  rw [rounds_succ]
  go_wp2_with (go_at_call 14; refine (HS _).mono ?_; rintro e w' ⟨rfl, rfl⟩)
  go_ret
  exact ⟨rfl, hbel⟩

end Go.Proofs.Qxb6601353a.W
