/-
  THE CONTRACT OF 'slices.Grow' AT []byte, WHERE THE SLICE IS FULL: a new row, all that the old one held ahead. (After the library's own walk of Grow at whatever element type.)
-/
import Derived.Test.Qxb6608766aDoorWalks
import Derived.Lib.AppendZerosOnto
import Derived.Laws.CopyOwn
namespace Go.Proofs.Qxb6608766aDoor.W
open Go.RowKit Go.Lib
open Go.Proofs.Qxb6608766aDoor.Plain

/-- Block g is a row of bytes, not frozen, that holds 'cur'. -/
def Row (w : World) (g : Nat) (cur : List Value) : Prop := w.heap[g]? = some (.cells cur.toArray 5 (0, 0))

theorem Row.lt {w : World} {g : Nat} {cur : List Value} (h : Row w g cur) : g < w.heap.size := (Array.getElem?_eq_some_iff.1 h).1

theorem Row.cell {w : World} {g : Nat} {cur : List Value} (h : Row w g cur) (j : Nat) : w.cell? ⟨g, j, none⟩ = cur[j]? := by
  unfold Row at h
  rw [cell_of_row w g j _ 5 (0, 0) h]
  simp

theorem Row.fz {w : World} {g : Nat} {cur : List Value} (h : Row w g cur) (j : Nat) : w.frozen? ⟨g, j, none⟩ = false := frozen_of_row w g j _ 5 h

theorem Row.below {w w' : World} {B g : Nat} {cur : List Value} (h : Row w g cur) (hb : Below B w w') (hg : g < B) : Row w' g cur := (hb.block g hg).trans h

theorem zeroCells_size (n : Nat) : (Builtin.zeroCells #[Value.int .u8 0] n).size = n := by simp [Builtin.zeroCells]

set_option maxHeartbeats 1000000 in
theorem grow_full (base : Option Addr) (c n : Nat) (cs : List Value) (w : World) (hn : 0 < n) (hbig : c + n ≤ 4194304) (hcl : cs.length = c) (hnil : base = none → c = 0)
    (hbase : ∀ a, base = some a → ∃ g, a = ⟨g, 0, none⟩)
    (hcs : ∀ a, base = some a → ∀ j v, cs[j]? = some v → w.cell? (a.add j) = some v) :
    Calls Tryd.prog 35 #[.slice base c c, .int .i64 n] w fun e w' =>
      ∃ G rest, c + n ≤ G ∧ G ≤ 9223372036854775807 ∧ (cs ++ rest).length = G ∧ e = .returned (.slice (some ⟨w.heap.size, 0, none⟩) c G) ∧ Row w' w.heap.size (cs ++ rest) ∧ Below w.heap.size w w' := by
  obtain ⟨i0, hi, hz0, hz1, hz2⟩ := info_parts info5
  have hold : (Builtin.firstCells i0.size c (.slice base c c)).run Tryd.prog w.drew = .ok cs.toArray w.drew := by
    rw [hz1]
    cases base with
    | none =>
      have h0 := hnil rfl
      subst h0
      have hc0 : cs = [] := List.length_eq_zero_iff.1 hcl
      rw [hc0]
      exact run_firstCells_none w.drew 1 0 0 0
    | some a => exact run_firstCells_some w.drew 1 c a c c cs (by omega) (fun j v hj => hcs a rfl j v hj)
  have hrz : ∀ ty, (Builtin.append_ #[22, 3] ty #[.slice base c c, .int .i64 n]).run Tryd.prog w =
      .ok (.slice (some ⟨w.heap.size, 0, none⟩) (c + n) (grownCap w (c + n) c 5)) (w.drew.alloc (.cells (cs.toArray ++ Builtin.zeroCells #[.int .u8 0] n ++ Builtin.zeroCells #[.int .u8 0] (grownCap w (c + n) c 5 - (c + n))) 5)) := fun ty =>
    Lib.run_append_grow_zeros w 22 3 ty 5 i0 (.int .u8 0) .i64 .i64 Tryd.underlying22 Tryd.underlying3 hi hz0 base c c cs hold n hn (by omega) (by omega) (by omega) (by rw [hz2]; omega)
      (by rw [hz2]; exact growslice_fits (by omega) (by omega))
  have hGn : c + n ≤ grownCap w (c + n) c 5 := grownCap_ge w _ _ _
  have hG63 : grownCap w (c + n) c 5 ≤ 9223372036854775807 := by
    have := grownCap_le_maxLen w (c + n) c 5 (by unfold maxLen; omega)
    unfold maxLen at this
    omega
  generalize grownCap w (c + n) c 5 = G at hrz hGn hG63
  have hrow : ∀ W : World, W = (w.alloc (.cells (cs.toArray ++ Builtin.zeroCells #[.int .u8 0] n ++ Builtin.zeroCells #[.int .u8 0] (G - (c + n))) 5)).drew →
      ∃ rest, (cs ++ rest).length = G ∧ Row W w.heap.size (cs ++ rest) ∧ Below w.heap.size w W := by
    rintro W rfl
    refine ⟨(Builtin.zeroCells #[.int .u8 0] n ++ Builtin.zeroCells #[.int .u8 0] (G - (c + n))).toList, ?_, ?_, ((Below.refl _ _).alloc (Nat.le_refl _) _).drew⟩
    · simp [zeroCells_size, hcl]; omega
    · show (w.heap.push _)[w.heap.size]? = _
      simp [Array.append_assoc]
  generalize cs.toArray ++ Builtin.zeroCells #[Value.int .u8 0] n ++ Builtin.zeroCells #[Value.int .u8 0] (G - (c + n)) = A at hrz hrow
  have HW : Hid _ := hrow
  clear hold hcs hrow hcl
  have hpos : (0 : Int) < (n : Int) := by omega
  cases base with
  | none =>
    have h0 := hnil rfl
    subst h0
    clear hnil hbase
    go_enter Tryd.func35, Tryd.ntmps35
    go_wp2_with (at_builtin; refine Lib.wpList_append_run _ rfl _ _ _ _ rfl _ _ rfl rfl _ _ (hrz _) ?_)
    go_ret
    obtain ⟨rest, h1, h2, h3⟩ := HW.out _ rfl
    exact ⟨G, rest, hGn, hG63, h1, rfl, h2, h3⟩
  | some a =>
    obtain ⟨g, rfl⟩ := hbase a rfl
    clear hnil hbase
    go_enter Tryd.func35, Tryd.ntmps35
    go_wp2_with (at_builtin; refine Lib.wpList_append_run _ rfl _ _ _ _ rfl _ _ rfl rfl _ _ (hrz _) ?_)
    go_ret
    obtain ⟨rest, h1, h2, h3⟩ := HW.out _ rfl
    exact ⟨G, rest, hGn, hG63, h1, rfl, h2, h3⟩

end Go.Proofs.Qxb6608766aDoor.W
