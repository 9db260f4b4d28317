/-
  THE CONTRACT OF 'zzCopyBytes'.
-/
import Derived.Test.Qxb6601353aWalks2
namespace Go.Proofs.Qxb6601353a.W
open Go.RowKit
open Go.Proofs.Qxb6601353a.Plain

theorem info5 : (Try.prog.info? 5).map (fun i => (i.zero, i.size, i.bytes)) = some (some (.int .u8 0), 1, 1) := by kernel_rfl

theorem copy_nil (w : World) : Calls Try.prog 11 #[.slice none 0 0] w fun e w' => e = .returned (.slice none 0 0) ∧ w' = w := by
  have hq := fun (w : World) (a : Option Addr) (n c : Nat) => Lib.run_eql_slice_nil (P := Try.prog) w 34 5 a n c 0 0 Try.underlying34
  go_enter Try.func11, Try.ntmps11
  go_wp2
  go_ret
  exact ⟨rfl, rfl⟩

theorem rel_store {w : World} {B n k : Nat} {ys : List Value} {xs : List Int} (hk : k < n) (hx : xs.length = n)
    (h : w.ownsRow B 5 1 (.slice (some ⟨B, 0, none⟩) n n) n ys) (hy : ∀ j, j < k → ys[j]? = some (.int .u8 (xs.getD j 0))) :
    (w.setCell ⟨B, k, none⟩ (.int .u8 (xs.getD k 0))).ownsRow B 5 1 (.slice (some ⟨B, 0, none⟩) n n) n (ys.set k (.int .u8 (xs.getD k 0))) ∧
    ∀ j, j < k + 1 → (ys.set k (.int .u8 (xs.getD k 0)))[j]? = some (.int .u8 (xs.getD j 0)) := by
  refine ⟨(h.stored k _).1, fun j hj => ?_⟩
  have hl : ys.length = n := by simpa using h.1
  rw [List.getElem?_set]
  by_cases e : k = j
  · subst e; rw [if_pos rfl, if_pos (by omega)]
  · rw [if_neg e]; exact hy j (by omega)

theorem rel_end {n : Nat} {ys : List Value} {xs : List Int} (hl : ys.length = n) (hx : xs.length = n) (hy : ∀ j, j < n → ys[j]? = some (.int .u8 (xs.getD j 0))) : ys = xs.map (Value.int .u8) := by
  apply List.ext_getElem?
  intro j
  by_cases hj : j < n
  · rw [hy j hj]
    simp [List.getD_eq_getElem?_getD, List.getElem?_eq_getElem (show j < xs.length by omega)]
  · rw [List.getElem?_eq_none (by omega), List.getElem?_eq_none (by simp; omega)]

set_option maxHeartbeats 400000 in
theorem copy_any (x : Addr) (n c : Nat) (xs : List Int) (w : World) (hx : xs.length = n) (hn : n ≤ 1048576)
    (hc0 : n = 0 ∨ ∃ b o, x = ⟨b, o, none⟩ ∧ ∀ i, i < n → w.cell? ⟨b, o + i, none⟩ = some (.int .u8 (xs.getD i 0))) :
    Calls Try.prog 11 #[.slice (some x) n c] w fun e w' => e = .returned (.slice (some ⟨w.heap.size, 0, none⟩) n n) ∧
      w'.ownsRow w.heap.size 5 1 (.slice (some ⟨w.heap.size, 0, none⟩) n n) n (xs.map (Value.int .u8)) ∧ Below w.heap.size w w' := by
  have hq := fun (w : World) (a : Option Addr) (n c : Nat) => Lib.run_eql_slice_nil (P := Try.prog) w 34 5 a n c 0 0 Try.underlying34
  obtain ⟨i0, hi, hz0, hz1, hz2⟩ := info_parts info5
  go_enter Try.func11, Try.ntmps11
  go_wp2_with (first
    | (at_make; refine wpList_make_full _ rfl (.tmp 8) (.tmp 8) 34 rfl w.heap.size 5 i0 (.int .u8 0) 1 Try.underlying34 hi hz0 hz1 .i64 .i64 _ _ n rfl rfl rfl rfl ?_ ?_ ?_ ?_))
  · rw [hz2]; omega
  · unfold maxLen; omega
  · exact Nat.le_refl _
  intro w1 hown hgrow
  have hb1 : Below w.heap.size w w1 := (Below.refl _ _).grown hgrow (Nat.le_refl _) (fun k h => by cases h)
  have HG : Hid (Below w.heap.size w w1) := hb1
  have HO : Hid _ := hown
  clear hown hgrow hb1
  go_wp2
  go_loopw [4] (fun i wr => ∃ k : Nat, k ≤ n ∧ i = .int .i64 k ∧ Below w.heap.size w wr ∧ ∃ ys, wr.ownsRow w.heap.size 5 1 (.slice (some ⟨w.heap.size, 0, none⟩) n n) n ys ∧ ∀ j, j < k → ys[j]? = some (.int .u8 (xs.getD j 0)))
    (fun i _ => n - (intOf i).toNat)
  case atStart => exact ⟨0, Nat.zero_le _, rfl, HG.out, _, HO.out, fun j hj => absurd hj (by omega)⟩
  case round =>
    obtain ⟨k, hk, rfl, hbel, ys, hown, hys⟩ := hrel
    by_cases hlt : k < n
    · rcases hc0 with hc0 | ⟨b, o, rfl, hc⟩
      · omega
      have hck := hc k hlt
      have hbw := World.block_lt_of_cell? _ _ hck
      have hcr : wr.cell? ⟨b, o + k, none⟩ = some (.int .u8 (xs.getD k 0)) := (hbel.cell hbw).trans hck
      obtain ⟨v0, hold⟩ : ∃ v0, wr.cell? ⟨w.heap.size, k, none⟩ = some v0 := by
        have hlen : ys.length = n := by simpa using hown.1
        exact ⟨ys[k]'(by omega), by rw [hown.cellAt k (by omega), List.getElem?_eq_getElem]⟩
      have hfz := hown.frozenAt k
      have HR := hown.stored k (.int .u8 (xs.getD k 0))
      obtain ⟨R1, R2⟩ := rel_store hlt hx hown hys
      have HB : Hid (Below w.heap.size w (wr.setCell ⟨w.heap.size, k, none⟩ (.int .u8 (xs.getD k 0)))) := hbel.setCell (Nat.le_refl _) _
      have HR1 : Hid _ := R1
      have HR2 : Hid _ := R2
      clear R1 R2 HR hown hys hbel hc hck
      generalize hv : xs.getD k 0 = v at hcr HB HR1 HR2
      clear hv
      go_wp2
      go_roundw
      case rel => exact ⟨k + 1, by omega, by go_num, HB.out, _, HR1.out, HR2.out⟩
      case measure => simp [intOf]; omega
    · obtain rfl : k = n := by omega
      have HF := rel_end (by simpa using hown.1) hx hys
      subst HF
      clear hys
      go_wp2
      go_ret
      exact ⟨rfl, hown, hbel⟩

end Go.Proofs.Qxb6601353a.W
