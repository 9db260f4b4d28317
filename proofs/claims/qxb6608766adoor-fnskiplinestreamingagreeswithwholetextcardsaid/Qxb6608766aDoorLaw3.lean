/-
  THE LAW's OWN WALK at the nil text; all cases together; the card.
-/
import Derived.Test.Qxb6608766aDoorLaw2
import Derived.Test.Qxb6608766aDoorFrame
namespace Go.Proofs.Qxb6608766aDoor.W
open Go.RowKit
open Go.Proofs.Qxb6608766aDoor.Plain

set_option maxHeartbeats 1000000 in
set_option maxRecDepth 100000 in
theorem law_nil (u : TypeId) (x : Value) (w : World) (hE : w.cell? ⟨0, 0, none⟩ = some (.iface u x)) :
    Calls Tryd.prog 4 #[.slice none 0 0, .int .i64 0] w fun e w' => e = .returned (.bool true) ∧ Below w.heap.size w w' := by
  have hE0 : 0 < w.heap.size := World.block_lt_of_cell? _ _ hE
  go_enter Tryd.func4, Tryd.ntmps4
  go_wp2_with (first
    | (go_at_call 12; refine (bytes_yes _ _ _ _ _ (by omega)).mono ?_; rintro e w' ⟨rfl, hw⟩; subst w')
    | (go_at_call 8; refine (copy_nil _).mono ?_; rintro e w' ⟨rfl, hw⟩; subst w'))
  refine wp_loop_rounds 1 ?_
  rw [rounds_succ]
  go_wp2_with fail
  refine (newInput none 0 0 0 u x w hE).mono ?_
  rintro e w3 ⟨rfl, hw3⟩
  have hin3 : InB w3 w.heap.size .nilIface (.slice none 0 0) 0 (.iface u x) := by rw [hw3]; exact inb_new _ _ _ _ _ _ _
  have hb3 : Below w.heap.size w w3 := by rw [hw3]; exact (Below.refl _ _).alloc (Nat.le_refl _) _
  have HSk := zzskip_of _ _ (skip_whole w.heap.size 0 0 .nilIface none [] u x w3 rfl (by omega) (Nat.le_refl _) (.inl ⟨rfl, rfl⟩) (fun y hy => by cases hy) hin3)
  rw [show lfEnd [] 0 = 0 from rfl] at HSk
  have HB3 : Hid _ := hb3
  clear hw3 hin3 hb3
  go_wp2_with fail
  refine HSk.mono ?_
  rintro e w4 ⟨rfl, hin4, hb4⟩
  have HIn4 : Hid (InB w4 w.heap.size .nilIface (.slice none 0 0) 0 (.iface u x)) := hin4
  have HB4 : Hid (Below w.heap.size w w4) := HB3.out.trans hb4
  have hE4 : w4.cell? ⟨0, 0, none⟩ = some (.iface u x) := (HB4.out.cell (p := ⟨0, 0, none⟩) hE0).trans hE
  have hs4 : w.heap.size ≤ w4.heap.size := HB4.out.size
  have hp6 := pos_new w4 none 0 [] u x
  clear hin4 hb4 HSk HB3 hE
  go_wp2_with (first
    | (go_at_call 11; refine (zzoff _ _ _ _ _ _ HIn4.out).mono ?_; rintro e w' ⟨rfl, hw⟩; subst w')
    | (go_at_call 8; refine (copy_nil _).mono ?_; rintro e w' ⟨rfl, hw⟩; subst w'))
  refine (newReaderInput none 0 0 w4).mono ?_
  rintro e w6 ⟨rfl, hw6⟩
  have hp6' : Pos w6 w4.heap.size (w4.heap.size + 1) 0 none [] u x 0 0 none 0 0 0 .nilIface := by rw [hw6]; exact hp6
  have hb6 : Below w4.heap.size w4 w6 := by rw [hw6]; exact ((Below.refl _ _).alloc (Nat.le_refl _) _).alloc (by simp) _
  have hbase : Base w6 w4.heap.size (w4.heap.size + 1) 0 none [] u x :=
    ⟨by simp, (fun y hy => by cases hy), (fun j hj => by simp at hj), (hb6.cell (p := ⟨0, 0, none⟩) (by show 0 < w4.heap.size; omega)).trans hE4, by omega, by omega, by omega, fun h => by simp at h⟩
  have HSk2 := zzskip_of _ _ (skip_stream w4.heap.size (w4.heap.size + 1) 0 none [] u x 0 0 0 0 0 none .nilIface w6 hbase hp6')
  have HBase : Hid _ := hbase
  have HB6 : Hid _ := hb6
  clear hw6 hp6 hp6' hb6 hbase hE4
  go_wp2_with fail
  refine HSk2.mono ?_
  rintro e w7 ⟨rfl, i7, L7, C7, off7, a7, ev7, hp7, hb7⟩
  have HPk := zzpeek_of (w4.heap.size + 1) 0 (((0 : Nat) : Int) + 1) w7 (R := fun e w' => ∃ (A : Option Addr) (m c : Nat), e = .returned (.slice A m c) ∧ m + lfEnd [] 0 = 0 ∧ Below w4.heap.size w7 w') (by
    refine (peek_stream w4.heap.size (w4.heap.size + 1) 0 none [] u x 0 (lfEnd [] 0) i7 L7 C7 off7 a7 ev7 w7 rfl (HBase.out.below hb7) hp7).mono ?_
    rintro e w' ⟨A, m, c, rfl, h1, h2, h3⟩
    exact ⟨A, m, c, rfl, A, m, c, rfl, h1, h3⟩)
  rw [show ((0 : Nat) : Int) + 1 = 1 from rfl] at HPk
  have HB7 : Hid _ := hb7
  clear HSk2 hp7 hb7
  go_wp2_with fail
  refine HPk.mono ?_
  rintro e w8 ⟨A0, m0, c0, rfl, A, m, c8, heq, hm, hb8⟩
  simp only [Ending.returned.injEq, Value.slice.injEq] at heq
  obtain ⟨rfl, rfl, rfl⟩ := heq
  obtain rfl : m0 = 0 := by omega
  have HB8 : Hid (Below w.heap.size w w8) := HB4.out.trans (((HB6.out.trans HB7.out).trans hb8).mono hs4)
  clear HPk hm hb8
  go_wp2_with fail
  refine wp_loop_rounds 1 ?_
  rw [rounds_succ]
  go_wp2
  go_ret
  exact ⟨rfl, HB8.out⟩

end Go.Proofs.Qxb6608766aDoor.W

namespace Go.Proofs.Qxb6608766aDoor.fnSkipLineStreamingAgreesWithWholeText
open Go.RowKit

theorem walk : Walk := by
  intro a0 len0 cap0 z0 a1 w u x w0 w1 hE
  rcases Nat.lt_or_ge 1048576 len0 with h | h
  · exact W.law_long a0 len0 cap0 a1 w h
  by_cases hk : a1 < 0 ∨ len0 < a1
  · exact W.law_out a0 len0 cap0 a1 w h hk
  obtain ⟨off, rfl⟩ : ∃ off : Nat, a1 = off := ⟨a1.toNat, by omega⟩
  rcases w0 with ⟨rfl, rfl, rfl, rfl⟩ | ⟨ad, rfl, hl, hm, hz, hcell, hwz⟩
  · obtain rfl : off = 0 := by omega
    exact W.law_nil u x w hE
  · refine W.law_any ad len0 cap0 off (z0.take len0) u x w (by simp; omega) h (by omega) (fun n hn => ?_) ?_ hE
    · exact bounds_u8 (hwz n (List.mem_of_mem_take hn))
    · rcases Nat.eq_zero_or_pos len0 with h0 | h0
      · exact .inl h0
      · obtain ⟨b, o, rfl, hc⟩ := ints_at hcell (by omega)
        refine .inr ⟨b, o, rfl, fun i hi => ?_⟩
        rw [hc i (by omega)]
        simp [List.getD_eq_getElem?_getD, hi]

/-- ████ THE STATEMENT: the tied card. -/
theorem proved : Rows.FnSkipLineStreamingAgreesWithWholeTextCardSaid := card walk

end Go.Proofs.Qxb6608766aDoor.fnSkipLineStreamingAgreesWithWholeText
