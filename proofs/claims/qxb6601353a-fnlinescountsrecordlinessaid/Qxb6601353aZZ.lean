/-
  THE CONTRACT OF 'ZZLines'.
-/
import Derived.Test.Qxb6601353aLines
import Derived.Deep.QuietTactic
import Derived.BigQuiet
import Derived.WalkSmall
namespace Go.Proofs.Qxb6601353a.W
open Go.RowKit
open Go.Proofs.Qxb6601353a.Plain

theorem ctr_new (w : World) (r : Int) (qd : Bool) (l : Int) : Ctr (w.alloc (.cells #[.int .i64 r, .bool qd, .int .u8 l] 45)) w.heap.size r qd l := by
  show (w.heap.push _)[w.heap.size]? = _
  simp

set_option maxHeartbeats 400000 in
theorem zz_nil (r : Int) (qd : Bool) (l : Int) (w : World) :
    Calls Try.prog 12 #[.int .i64 r, .bool qd, .int .u8 l, .slice none 0 0] w fun e w' => e = .returned (.tuple #[.int .i64 (go [] [] r l).1, .bool qd, .int .u8 (go [] [] r l).2]) ∧ Below w.heap.size w w' := by
  have hC := ctr_new w r qd l
  have hg : go [] [] r l = (r, l) := rfl
  rw [hg]
  clear hg
  go_enter Try.func12, Try.ntmps12
  go_wp2_with (go_at_call 17; refine (lines_nil _ _ _ _ _ hC).mono ?_; rintro e w' ⟨rfl, rfl⟩)
  go_quiet (fail)
  go_wp2
  go_ret3
  exact ⟨rfl, below_drewN ((Below.refl _ _).alloc (Nat.le_refl _) _) _⟩

set_option maxHeartbeats 400000 in
theorem zz_any (bs : Nat) (r : Int) (qd : Bool) (l : Int) (n : Nat) (xs : List Int) (w : World) (hx : xs.length = n) (hn : n ≤ 1048576)
    (hc : ∀ i, i < n → w.cell? ⟨bs, 0 + i, none⟩ = some (.int .u8 (xs.getD i 0))) (hb : ∀ x ∈ xs, 0 ≤ x ∧ x ≤ 255) (hbs : bs < w.heap.size) :
    Calls Try.prog 12 #[.int .i64 r, .bool qd, .int .u8 l, .slice (some ⟨bs, 0, none⟩) n n] w fun e w' => e = .returned (.tuple #[.int .i64 (go [] xs r l).1, .bool qd, .int .u8 (go [] xs r l).2]) ∧ Below w.heap.size w w' := by
  have hC := ctr_new w r qd l
  have hc' : ∀ i, i < n → (w.alloc (.cells #[.int .i64 r, .bool qd, .int .u8 l] 45)).cell? ⟨bs, 0 + i, none⟩ = some (.int .u8 (xs.getD i 0)) := fun i hi => by
    rw [((Below.refl w.heap.size w).alloc (Nat.le_refl _) _).cell (p := ⟨bs, 0 + i, none⟩) hbs]; exact hc i hi
  have HL := lines_any w.heap.size bs 0 r qd l n xs _ hC hx hn hc' hb hbs
  generalize (go [] xs r l).1 = R at HL ⊢
  generalize (go [] xs r l).2 = L at HL ⊢
  clear hc hc' hb hx hbs hC
  go_enter Try.func12, Try.ntmps12
  go_wp2_with (go_at_call 17; refine HL.mono ?_; rintro e w' ⟨rfl, hC', hbel⟩; have c0 := hC'.c0; have c1 := hC'.c1; have c2 := hC'.c2)
  go_quiet (fail)
  go_wp2
  go_ret3
  exact ⟨rfl, below_drewN (((Below.refl _ _).alloc (Nat.le_refl _) _).trans hbel) _⟩

end Go.Proofs.Qxb6601353a.W
