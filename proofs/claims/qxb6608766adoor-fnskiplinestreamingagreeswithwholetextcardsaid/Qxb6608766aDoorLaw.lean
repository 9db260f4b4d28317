/-
  THE LAW's OWN WALK: too long; a position out of range; the pieces that the rest is made of.
-/
import Derived.Test.Qxb6608766aDoorPeek
namespace Go.Proofs.Qxb6608766aDoor.W
open Go.RowKit
open Go.Proofs.Qxb6608766aDoor.Plain

theorem law_long (a : Option Addr) (n c : Nat) (k : Int) (w : World) (h : 1048576 < n) :
    Calls Tryd.prog 4 #[.slice a n c, .int .i64 k] w fun e w' => e = .returned (.bool true) ∧ Below w.heap.size w w' := by
  go_enter Tryd.func4, Tryd.ntmps4
  go_wp2_with (go_at_call 12; refine (bytes_no _ _ _ _ _ h).mono ?_; rintro e w' ⟨rfl, hw⟩; subst w')
  go_ret
  exact ⟨rfl, Below.refl _ _⟩

theorem law_out (a : Option Addr) (n c : Nat) (k : Int) (w : World) (h : n ≤ 1048576) (hk : k < 0 ∨ n < k) :
    Calls Tryd.prog 4 #[.slice a n c, .int .i64 k] w fun e w' => e = .returned (.bool true) ∧ Below w.heap.size w w' := by
  rcases Int.lt_or_le k 0 with h1 | h1
  · clear hk
    go_enter Tryd.func4, Tryd.ntmps4
    go_wp2_with (go_at_call 12; refine (bytes_yes _ _ _ _ _ h).mono ?_; rintro e w' ⟨rfl, hw⟩; subst w')
    go_ret
    exact ⟨rfl, Below.refl _ _⟩
  · have h2 : (n : Int) < k := by omega
    clear hk
    go_enter Tryd.func4, Tryd.ntmps4
    go_wp2_with (go_at_call 12; refine (bytes_yes _ _ _ _ _ h).mono ?_; rintro e w' ⟨rfl, hw⟩; subst w')
    go_ret
    exact ⟨rfl, Below.refl _ _⟩

theorem clone_some (x : Addr) (n c : Nat) (xs : List Int) (w : World) (hx : xs.length = n) (hn : n ≤ 1048576)
    (hc0 : n = 0 ∨ ∃ b o, x = ⟨b, o, none⟩ ∧ ∀ i, i < n → w.cell? ⟨b, o + i, none⟩ = some (.int .u8 (xs.getD i 0))) :
    Calls Tryd.prog 8 #[.slice (some x) n c] w fun e w' => e = .returned (.slice (some ⟨w.heap.size, 0, none⟩) n n) ∧
      (∀ j, j < n → w'.cell? ⟨w.heap.size, j, none⟩ = some (.int .u8 (xs.getD j 0))) ∧ w.heap.size < w'.heap.size ∧ Below w.heap.size w w' := by
  refine (copy_any x n c xs w hx hn hc0).mono ?_
  rintro e w' ⟨rfl, hown, hbel⟩
  refine ⟨rfl, fun j hj => ?_, ?_, hbel⟩
  · rw [hown.cellAt j (by omega)]
    simp [List.getElem?_eq_getElem (show j < xs.length by omega)]
  · rcases hown.2 with ⟨h, _⟩ | ⟨g, cap, cur, hv, _, hh, _⟩
    · simp at h
    · simp at hv
      obtain ⟨rfl, _⟩ := hv
      exact (Array.getElem?_eq_some_iff.1 hh).1

theorem inb_new (w : World) (a : Option Addr) (n c : Nat) (off : Int) (u : TypeId) (x : Value) : InB (w.alloc (.cells #[.nilIface, .slice a n c, .int .i64 off, .iface u x] 42)) w.heap.size .nilIface (.slice a n c) off (.iface u x) := by
  show (w.heap.push _)[w.heap.size]? = _
  simp

/-- A new stream. -/
theorem pos_new (w : World) (sa : Option Addr) (sb : Nat) (D : List Int) (u : TypeId) (x : Value) :
    Pos ((w.alloc (.cells #[.slice sa D.length D.length, .int .i64 0, .int .i64 (-1)] 52)).alloc (.cells #[.iface 43 (.pointer (some ⟨w.heap.size, 0, none⟩)), .slice none 0 0, .int .i64 0, .nilIface] 42))
      w.heap.size (w.heap.size + 1) sb sa D u x 0 0 none 0 0 0 .nilIface := by
  refine ⟨⟨⟨-1, ?_⟩, ?_, ⟨?_, Nat.le_refl _, by omega, .inl ⟨rfl, rfl⟩⟩, Nat.le_refl _, Nat.zero_le _, Nat.le_refl _⟩, .inl rfl, rfl⟩
  · show ((w.heap.push _).push _)[w.heap.size]? = _
    rw [Array.getElem?_push, if_neg (by simp)]
    simp
  · show ((w.heap.push _).push _)[w.heap.size + 1]? = _
    rw [Array.getElem?_push, if_pos (by simp)]
    rfl
  · simp [held]

end Go.Proofs.Qxb6608766aDoor.W
