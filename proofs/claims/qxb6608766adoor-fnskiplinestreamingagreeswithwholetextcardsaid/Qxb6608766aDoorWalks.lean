/-
  THE SMALL CALLEES' CONTRACTS: the copy of a slice of bytes; bytes.IndexByte; the makers of the two inputs.
-/
import Derived.Test.Qxb6608766aDoorRows
import Derived.Test.Qxb6608766aDoorPlain
import Derived.WalkKit
import Derived.WalkSpells
import Derived.WalkLawsBesides
import Derived.Below
import Derived.Outline
import Derived.LoopTactic
import Derived.RegionTactic
import Derived.ChangeAlike
import Derived.Lib.BytesEntry
import Derived.WalkSmall
import Derived.Deep.QuietTactic
import Derived.BigQuiet
namespace Go.Proofs.Qxb6608766aDoor.W
open Go.RowKit
open Go.Proofs.Qxb6608766aDoor.Plain

theorem info5 : (Tryd.prog.info? 5).map (fun i => (i.zero, i.size, i.bytes)) = some (some (.int .u8 0), 1, 1) := by kernel_rfl

theorem copy_nil (w : World) : Calls Tryd.prog 8 #[.slice none 0 0] w fun e w' => e = .returned (.slice none 0 0) ∧ w' = w := by
  have hq := fun (w : World) (a : Option Addr) (n c : Nat) => Lib.run_eql_slice_nil (P := Tryd.prog) w 22 5 a n c 0 0 Tryd.underlying22
  go_enter Tryd.func8, Tryd.ntmps8
  go_wp2
  go_ret
  exact ⟨rfl, rfl⟩

theorem rel_store {w : World} {B n k : Nat} {ys : List Value} {xs : List Int} (hk : k < n) (hx : xs.length = n)
    (h : w.ownsRow B 5 1 (.slice (some ⟨B, 0, none⟩) n n) n ys) (hy : ∀ j, j < k → ys[j]? = some (.int .u8 (xs.getD j 0))) :
    (w.setCell ⟨B, k, none⟩ (.int .u8 (xs.getD k 0))).ownsRow B 5 1 (.slice (some ⟨B, 0, none⟩) n n) n (ys.set k (.int .u8 (xs.getD k 0))) ∧
    ∀ j, j < k + 1 → (ys.set k (.int .u8 (xs.getD k 0)))[j]? = some (.int .u8 (xs.getD j 0)) := by
  refine ⟨(h.stored k _).1, fun j hj => ?_⟩
  have hl : ys.length = n := by simpa using h.1
  rw [List.getElem?_set]
  by_cases e : k = j
  · subst e; rw [if_pos rfl, if_pos (by omega)]
  · rw [if_neg e]; exact hy j (by omega)

theorem rel_end {n : Nat} {ys : List Value} {xs : List Int} (hl : ys.length = n) (hx : xs.length = n) (hy : ∀ j, j < n → ys[j]? = some (.int .u8 (xs.getD j 0))) : ys = xs.map (Value.int .u8) := by
  apply List.ext_getElem?
  intro j
  by_cases hj : j < n
  · rw [hy j hj]
    simp [List.getD_eq_getElem?_getD, List.getElem?_eq_getElem (show j < xs.length by omega)]
  · rw [List.getElem?_eq_none (by omega), List.getElem?_eq_none (by simp; omega)]

set_option maxHeartbeats 400000 in
theorem copy_any (x : Addr) (n c : Nat) (xs : List Int) (w : World) (hx : xs.length = n) (hn : n ≤ 1048576)
    (hc0 : n = 0 ∨ ∃ b o, x = ⟨b, o, none⟩ ∧ ∀ i, i < n → w.cell? ⟨b, o + i, none⟩ = some (.int .u8 (xs.getD i 0))) :
    Calls Tryd.prog 8 #[.slice (some x) n c] w fun e w' => e = .returned (.slice (some ⟨w.heap.size, 0, none⟩) n n) ∧
      w'.ownsRow w.heap.size 5 1 (.slice (some ⟨w.heap.size, 0, none⟩) n n) n (xs.map (Value.int .u8)) ∧ Below w.heap.size w w' := by
  have hq := fun (w : World) (a : Option Addr) (n c : Nat) => Lib.run_eql_slice_nil (P := Tryd.prog) w 22 5 a n c 0 0 Tryd.underlying22
  obtain ⟨i0, hi, hz0, hz1, hz2⟩ := info_parts info5
  go_enter Tryd.func8, Tryd.ntmps8
  go_wp2_with (first
    | (at_make; refine wpList_make_full _ rfl (.tmp 8) (.tmp 8) 22 rfl w.heap.size 5 i0 (.int .u8 0) 1 Tryd.underlying22 hi hz0 hz1 .i64 .i64 _ _ n rfl rfl rfl rfl ?_ ?_ ?_ ?_))
  · rw [hz2]; omega
  · unfold maxLen; omega
  · exact Nat.le_refl _
  intro w1 hown hgrow
  have hb1 : Below w.heap.size w w1 := (Below.refl _ _).grown hgrow (Nat.le_refl _) (fun k h => by cases h)
  have HG : Hid (Below w.heap.size w w1) := hb1
  have HO : Hid _ := hown
  clear hown hgrow hb1
  go_wp2
  go_loopw [4] (fun i wr => ∃ k : Nat, k ≤ n ∧ i = .int .i64 k ∧ Below w.heap.size w wr ∧ ∃ ys, wr.ownsRow w.heap.size 5 1 (.slice (some ⟨w.heap.size, 0, none⟩) n n) n ys ∧ ∀ j, j < k → ys[j]? = some (.int .u8 (xs.getD j 0)))
    (fun i _ => n - (intOf i).toNat)
  case atStart => exact ⟨0, Nat.zero_le _, rfl, HG.out, _, HO.out, fun j hj => absurd hj (by omega)⟩
  case round =>
    obtain ⟨k, hk, rfl, hbel, ys, hown, hys⟩ := hrel
    by_cases hlt : k < n
    · rcases hc0 with hc0 | ⟨b, o, rfl, hc⟩
      · omega
      have hck := hc k hlt
      have hbw := World.block_lt_of_cell? _ _ hck
      have hcr : wr.cell? ⟨b, o + k, none⟩ = some (.int .u8 (xs.getD k 0)) := (hbel.cell hbw).trans hck
      obtain ⟨v0, hold⟩ : ∃ v0, wr.cell? ⟨w.heap.size, k, none⟩ = some v0 := by
        have hlen : ys.length = n := by simpa using hown.1
        exact ⟨ys[k]'(by omega), by rw [hown.cellAt k (by omega), List.getElem?_eq_getElem]⟩
      have hfz := hown.frozenAt k
      have HR := hown.stored k (.int .u8 (xs.getD k 0))
      obtain ⟨R1, R2⟩ := rel_store hlt hx hown hys
      have HB : Hid (Below w.heap.size w (wr.setCell ⟨w.heap.size, k, none⟩ (.int .u8 (xs.getD k 0)))) := hbel.setCell (Nat.le_refl _) _
      have HR1 : Hid _ := R1
      have HR2 : Hid _ := R2
      clear R1 R2 HR hown hys hbel hc hck
      generalize hv : xs.getD k 0 = v at hcr HB HR1 HR2
      clear hv
      go_wp2
      go_roundw
      case rel => exact ⟨k + 1, by omega, by go_num, HB.out, _, HR1.out, HR2.out⟩
      case measure => simp [intOf]; omega
    · obtain rfl : k = n := by omega
      have HF := rel_end (by simpa using hown.1) hx hys
      subst HF
      clear hys
      go_wp2
      go_ret
      exact ⟨rfl, hown, hbel⟩


theorem index_any (b o n c : Nat) (xs : List Int) (w : World) (hx : xs.length = n)
    (hc : ∀ i, i < n → w.cell? ⟨b, o + i, none⟩ = some (.int .u8 (xs.getD i 0))) (hb : ∀ x ∈ xs, 0 ≤ x ∧ x ≤ 255) :
    Calls Tryd.prog 26 #[.slice (some ⟨b, o, none⟩) n c, .int .u8 10] w fun e w' => e = .returned (.int .i64 (idx xs)) ∧ w' = w := by
  have hr := Lib.run_indexByteSlice (P := Tryd.prog) w b o n c xs hx hc 10
  rw [show (10 : Int).toNat.toUInt8 = 10 from rfl, idx_lib xs hb] at hr
  go_enter Tryd.func26, Tryd.ntmps26
  go_wp2
  rw [run_callFunc_extern Tryd.func29 (by kernel_rfl) (by kernel_rfl) (by kernel_rfl) (e := Extern.BytealgIndexByte.indexByte) (by kernel_rfl), hr]
  simp only [Result.andThen]
  rw [Oper.upon_value]
  go_wp2
  go_ret
  exact ⟨rfl, rfl⟩

theorem index_nil (w : World) :
    Calls Tryd.prog 26 #[.slice none 0 0, .int .u8 10] w fun e w' => e = .returned (.int .i64 (-1)) ∧ w' = w := by
  go_enter Tryd.func26, Tryd.ntmps26
  go_wp2
  rw [run_callFunc_extern Tryd.func29 (by kernel_rfl) (by kernel_rfl) (by kernel_rfl) (e := Extern.BytealgIndexByte.indexByte) (by kernel_rfl), Lib.run_indexByteNil w 0 0 10]
  simp only [Result.andThen]
  rw [Oper.upon_value]
  go_wp2
  go_ret
  exact ⟨rfl, rfl⟩

theorem bytes_yes (a : Option Addr) (n c : Nat) (k : Int) (w : World) (h : n ≤ 1048576) :
    Calls Tryd.prog 12 #[.slice a n c, .int .i64 k] w fun e w' => e = .returned (.bool true) ∧ w' = w := by
  go_enter Tryd.func12, Tryd.ntmps12
  go_wp2
  go_ret
  exact ⟨rfl, rfl⟩

theorem bytes_no (a : Option Addr) (n c : Nat) (k : Int) (w : World) (h : 1048576 < n) :
    Calls Tryd.prog 12 #[.slice a n c, .int .i64 k] w fun e w' => e = .returned (.bool false) ∧ w' = w := by
  go_enter Tryd.func12, Tryd.ntmps12
  go_wp2
  go_ret
  exact ⟨rfl, rfl⟩

theorem newInput (a : Option Addr) (n c : Nat) (off : Int) (u : TypeId) (x : Value) (w : World) (h0 : w.cell? ⟨0, 0, none⟩ = some (.iface u x)) :
    Calls Tryd.prog 9 #[.slice a n c, .int .i64 off] w fun e w' => e = .returned (.pointer (some ⟨w.heap.size, 0, none⟩)) ∧ w' = w.alloc (.cells #[.nilIface, .slice a n c, .int .i64 off, .iface u x] 42) := by
  go_enter Tryd.func9, Tryd.ntmps9
  go_wp2
  go_ret
  exact ⟨rfl, rfl⟩

theorem newReader (a : Option Addr) (n c : Nat) (w : World) :
    Calls Tryd.prog 21 #[.slice a n c] w fun e w' => e = .returned (.pointer (some ⟨w.heap.size, 0, none⟩)) ∧ w' = w.alloc (.cells #[.slice a n c, .int .i64 0, .int .i64 (-1)] 52) := by
  go_enter Tryd.func21, Tryd.ntmps21
  go_wp2
  go_ret
  exact ⟨rfl, rfl⟩

theorem newReaderInput (a : Option Addr) (n c : Nat) (w : World) :
    Calls Tryd.prog 13 #[.slice a n c] w fun e w' => e = .returned (.pointer (some ⟨w.heap.size + 1, 0, none⟩)) ∧
      w' = (w.alloc (.cells #[.slice a n c, .int .i64 0, .int .i64 (-1)] 52)).alloc (.cells #[.iface 43 (.pointer (some ⟨w.heap.size, 0, none⟩)), .slice none 0 0, .int .i64 0, .nilIface] 42) := by
  go_enter Tryd.func13, Tryd.ntmps13
  go_wp2_with (go_at_call 21; refine (newReader _ _ _ _).mono ?_; rintro e w' ⟨rfl, hw⟩; subst w')
  go_ret
  exact ⟨rfl, rfl⟩

end Go.Proofs.Qxb6608766aDoor.W
