/-
  THE CONTRACT OF '(*bytes.Reader).Read'.
-/
import Derived.Test.Qxb6608766aDoorGrow
import Derived.Deep.RegionLaw
import Derived.BigRegion
namespace Go.Proofs.Qxb6608766aDoor.W
open Go.RowKit
open Go.Proofs.Qxb6608766aDoor.Plain

/-- The reader's block. -/
def RdB (w : World) (rb : Nat) (sv : Value) (i pr : Int) : Prop := w.heap[rb]? = some (.cells #[sv, .int .i64 i, .int .i64 pr] 52 (0, 0))

theorem RdB.lt {w : World} {rb : Nat} {sv : Value} {i pr : Int} (h : RdB w rb sv i pr) : rb < w.heap.size := (Array.getElem?_eq_some_iff.1 h).1
theorem RdB.c0 {w : World} {rb : Nat} {sv : Value} {i pr : Int} (h : RdB w rb sv i pr) : w.cell? ⟨rb, 0, none⟩ = some sv := by unfold RdB at h; simp [World.cell?, h]
theorem RdB.c1 {w : World} {rb : Nat} {sv : Value} {i pr : Int} (h : RdB w rb sv i pr) : w.cell? ⟨rb, 1, none⟩ = some (.int .i64 i) := by unfold RdB at h; simp [World.cell?, h]
theorem RdB.c2 {w : World} {rb : Nat} {sv : Value} {i pr : Int} (h : RdB w rb sv i pr) : w.cell? ⟨rb, 2, none⟩ = some (.int .i64 pr) := by unfold RdB at h; simp [World.cell?, h]
theorem RdB.fz {w : World} {rb : Nat} {sv : Value} {i pr : Int} (h : RdB w rb sv i pr) (o : Nat) : w.frozen? ⟨rb, o, none⟩ = false := frozen_of_row w rb o _ 52 h
theorem RdB.s2 {w : World} {rb : Nat} {sv : Value} {i pr : Int} (h : RdB w rb sv i pr) (u : Int) : RdB (w.setCell ⟨rb, 2, none⟩ (.int .i64 u)) rb sv i u := by
  have := heap_setCell_same w rb 2 _ 52 (.int .i64 u) h
  exact this
theorem RdB.s1 {w : World} {rb : Nat} {sv : Value} {i pr : Int} (h : RdB w rb sv i pr) (u : Int) : RdB (w.setCell ⟨rb, 1, none⟩ (.int .i64 u)) rb sv u pr := by
  have := heap_setCell_same w rb 1 _ 52 (.int .i64 u) h
  exact this
theorem RdB.below {w w' : World} {B rb : Nat} {sv : Value} {i pr : Int} (h : RdB w rb sv i pr) (hb : Below B w w') (hg : rb < B) : RdB w' rb sv i pr := (hb.block rb hg).trans h

set_option maxHeartbeats 400000 in
theorem read_eof (rb : Nat) (sa : Option Addr) (N sC : Nat) (pr : Int) (bv : Value) (u : TypeId) (x : Value) (w : World) (_hN : N ≤ 1048576) (hR : RdB w rb (.slice sa N sC) N pr) (h0 : w.cell? ⟨0, 0, none⟩ = some (.iface u x)) :
    Calls Tryd.prog 71 #[.pointer (some ⟨rb, 0, none⟩), bv] w fun e w' => e = .returned (.tuple #[.int .i64 0, .iface u x]) ∧ w'.heap = w.heap ∧ Below w.heap.size w w' := by
  have c0 := hR.c0
  have c1 := hR.c1
  clear hR
  go_enter Tryd.func71, Tryd.ntmps71
  go_wp2
  go_quiet (fail)
  go_wp2
  go_quiet (fail)
  go_wp2
  go_ret2
  exact ⟨rfl, rfl, below_drewN (below_drewN (Below.refl _ _) _) _⟩

theorem cells_cs (D : List Int) (i n : Nat) (j : Nat) (v : Value) (h : (((D.drop i).take n).map (Value.int .u8))[j]? = some v) : v = .int .u8 (D.getD (i + j) 0) ∧ i + j < D.length := by
  rw [List.getElem?_map, Option.map_eq_some_iff] at h
  obtain ⟨a, ha, rfl⟩ := h
  rw [List.getElem?_take] at ha
  split at ha
  · rw [List.getElem?_drop] at ha
    exact ⟨by rw [List.getD_eq_getElem?_getD, ha]; rfl, (List.getElem?_eq_some_iff.1 ha).1⟩
  · cases ha

set_option maxHeartbeats 1000000 in
theorem read_some (rb sb g N i L m n : Nat) (pr : Int) (cur cs : List Value) (w : World) (_hD : N ≤ 1048576) (hi : i < N) (hR : RdB w rb (.slice (some ⟨sb, 0, none⟩) N N) i pr)
    (hsrc0 : ∀ j v, cs[j]? = some v → w.cell? ⟨sb, i + j, none⟩ = some v) (hone : ∀ v ∈ cs, v.oneCell' = true) (hcl : cs.length = n) (hn : n = Nat.min (N - i) m)
    (hrow : Row w g cur) (hm : L + m = cur.length) (_hmm : m ≤ 9223372036854775807) (hsb : sb < rb) (hrb : rb < g) :
    Calls Tryd.prog 71 #[.pointer (some ⟨rb, 0, none⟩), .slice (some ⟨g, L, none⟩) m m] w fun e w' =>
      e = .returned (.tuple #[.int .i64 (n : Int), .nilIface]) ∧ RdB w' rb (.slice (some ⟨sb, 0, none⟩) N N) ((i : Int) + (n : Int)) (-1) ∧
        Row w' g (splice cur L cs) ∧ Below rb w w' ∧ ∀ k, rb < k → k < g → w'.heap[k]? = w.heap[k]? := by
  have c0 := hR.c0
  have c1 := hR.c1
  have c2 := hR.c2
  have f2 := hR.fz 2
  have f1 := hR.fz 1
  have hlt : (i : Int) < (N : Int) := by omega
  have hnm : n ≤ m := by rw [hn]; exact Nat.min_le_right _ _
  have hnN : n ≤ N - i := by rw [hn]; exact Nat.min_le_left _ _
  have HLn : Hid (cs.length = Nat.min (N - i) m) := hcl.trans hn
  have HL : Hid _ := hcl
  have H1 : Hid _ := hone
  have HF : Hid (L + cs.length ≤ cur.length) := by unfold Hid; omega
  clear hn hcl hone
  go_enter Tryd.func71, Tryd.ntmps71
  go_wp2
  go_quiet (fail)
  go_wp2
  generalize hW4 : ((w.drewN nq).setCell ⟨rb, 2, none⟩ (Value.int .i64 (-1))) = w4
  have hR4 : RdB w4 rb (.slice (some ⟨sb, 0, none⟩) N N) i (-1) := by rw [← hW4]; exact RdB.s2 (w := w.drewN nq) hR (-1)
  have hB4 : Below rb w w4 := by rw [← hW4]; exact Below.setCell (p := ⟨rb, 2, none⟩) (below_drewN (Below.refl _ _) _) (Nat.le_refl _) _
  have hK4 : ∀ k, k ≠ rb → w4.heap[k]? = w.heap[k]? := fun k hk => by rw [← hW4, Below.heap_setCell _ _ _ _ hk]; rfl
  have hrow4 : Row w4 g cur := (hK4 g (by omega)).trans hrow
  have hsrc : ∀ j v, cs[j]? = some v → w4.cell? ⟨sb, i + j, none⟩ = some v := fun j v hj => (hB4.cell (p := ⟨sb, i + j, none⟩) hsb).trans (hsrc0 j v hj)
  clear hW4 hR hsrc0 c0 c1 c2 f1 f2 hrow
  have d0 := hR4.c0
  have d1 := hR4.c1
  have HK : Hid _ := hK4
  have HB : Hid _ := hB4
  have HR : Hid _ := hR4
  have HP : Hid (0 < cs.length → (some ⟨g, L, none⟩ : Option Addr) = some ⟨g, L, none⟩ ∧ ∃ ad, (some ⟨sb, i, none⟩ : Option Addr) = some ad ∧ ∀ j v, cs[j]? = some v → w4.drew.cell? (ad.add j) = some v) :=
    fun _ => ⟨rfl, ⟨sb, i, none⟩, rfl, fun j v hj => by rw [Go.WideShapes.add_plain]; exact hsrc j v hj⟩
  have HD : Hid (w4.drew.heap[g]? = some (.cells cur.toArray 5 (0, 0))) := hrow4
  have HBd : Hid (Below g w4 w4.drew) := (Below.refl _ _).drew
  clear hK4 hB4 hR4 hrow4 hsrc
  have hle : i ≤ N := by omega
  have hne : ¬ N = i := by omega
  go_region_law (refine step_copy_splice rfl (.tmp 20) (.tmp 29) 22 22 rfl 5 Tryd.underlying22 (by kernel_rfl) (some ⟨g, L, none⟩) (some ⟨sb, i, none⟩) m m (N - i) (N - i) (by simp [Act.eval, Act.put]) (by simp [Act.eval, Act.put]) g L cur 5 HD.out cs HLn.out HP.out HF.out H1.out g w4 HBd.out (Nat.le_refl _) ?_; rw [HL.out]; intro w5 hg5 hb5)
  all_goals
    have hR5 : RdB w5 rb (.slice (some ⟨sb, 0, none⟩) N N) i (-1) := RdB.below (w := w4) HR.out hb5 hrb
    have g1 := hR5.c1
    have k1 := hR5.fz 1
    have HR5 : Hid _ := hR5
    have Hb5 : Hid _ := hb5
    clear hR5 hb5 d0 d1
    go_wp2
    go_ret2
    refine ⟨rfl, ?_, ?_, ?_, ?_⟩
    · exact RdB.s1 (w := w5) HR5.out _
    · exact (Below.heap_setCell w5 ⟨rb, 1, none⟩ _ g (by show g ≠ rb; omega)).trans hg5.out
    · exact Below.setCell (p := ⟨rb, 1, none⟩) (HB.out.trans (Hb5.out.mono (by omega))) (Nat.le_refl _) _
    · intro k hk1 hk2
      rw [Below.heap_setCell w5 ⟨rb, 1, none⟩ _ k (by show k ≠ rb; omega), Hb5.out.block k hk2, HK.out k (by omega)]

end Go.Proofs.Qxb6608766aDoor.W
