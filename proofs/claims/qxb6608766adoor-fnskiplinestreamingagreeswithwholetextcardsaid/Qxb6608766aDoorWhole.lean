/-
  THE INPUT THAT HOLDS ITS WHOLE TEXT: 'fill', 'at', 'skipLine', 'ZZskipLine', 'ZZinputOff'.
-/
import Derived.Test.Qxb6608766aDoorState
import Derived.Test.Qxb6608766aDoorPlain2
import Derived.Deep.LoopGhost
import Derived.BigRegion
namespace Go.Proofs.Qxb6608766aDoor.W
open Go.RowKit
open Go.Proofs.Qxb6608766aDoor.Plain

/-- The same memory. -/
def Same (w w' : World) : Prop := w'.heap = w.heap ∧ Below w.heap.size w w'
theorem Same.drewN (w : World) (n : Nat) : Same w (w.drewN n) := ⟨rfl, below_drewN (Below.refl _ _) _⟩
theorem Same.trans {a b c : World} (h : Same a b) (k : Same b c) : Same a c := ⟨k.1.trans h.1, h.2.trans (by have := k.2; rw [h.1] at this; exact this)⟩
theorem Same.inb {w w' : World} (h : Same w w') {ib : Nat} {rv bv : Value} {off : Int} {ev : Value} (k : InB w ib rv bv off ev) : InB w' ib rv bv off ev := by unfold InB at *; rw [h.1]; exact k

set_option maxHeartbeats 1000000 in
set_option maxRecDepth 100000 in
/-- 'fill' where reading has ended: nothing is read. -/
theorem fill_done (ib k L C off : Nat) (rv : Value) (a : Option Addr) (u : TypeId) (x : Value) (w : World) (hL : L ≤ 2097152) (hk : k ≤ 2097152) (ho : off ≤ L) (hge : L ≤ off + k) (hin : InB w ib rv (.slice a L C) off (.iface u x)) :
    Calls Tryd.prog 30 #[.pointer (some ⟨ib, 0, none⟩), .int .i64 k] w fun e w' => e = .returned (.tuple #[.int .u8 0, .bool false]) ∧ Same w w' := by
  have c1 := hin.c1
  have c2 := hin.c2
  have c3 := hin.c3
  have hge' : (L : Int) ≤ (off : Int) + (k : Int) := by omega
  clear hin
  go_enter Tryd.func30, Tryd.ntmps30
  go_wp2
  refine wp_loop_rounds 1 ?_
  rw [rounds_succ]
  go_wp2
  go_quiet (fail)
  go_wp2
  go_ret2
  exact ⟨rfl, Same.drewN _ _⟩

set_option maxHeartbeats 1000000 in
set_option maxRecDepth 100000 in
theorem at_done (ib k L C off : Nat) (rv : Value) (a : Option Addr) (u : TypeId) (x : Value) (w : World) (hL : L ≤ 2097152) (hk : k ≤ 2097152) (ho : off ≤ L) (hge : L ≤ off + k) (hin : InB w ib rv (.slice a L C) off (.iface u x)) :
    Calls Tryd.prog 27 #[.pointer (some ⟨ib, 0, none⟩), .int .i64 k] w fun e w' => e = .returned (.tuple #[.int .u8 0, .bool false]) ∧ Same w w' := by
  have c1 := hin.c1
  have c2 := hin.c2
  have hge' : ¬ (off : Int) + (k : Int) < (L : Int) := by omega
  have HF := fill_done ib k L C off rv a u x w hL hk ho hge hin
  clear hin
  go_enter Tryd.func27, Tryd.ntmps27
  go_wp2_with (go_at_call 30; refine HF.mono ?_; rintro e w' ⟨rfl, hs⟩)
  go_ret2
  exact ⟨rfl, hs⟩

/-- A slice of bytes that can be cut anywhere: nil and empty, or a block whose cells hold 'xs'. -/
def Txt (w : World) (a : Option Addr) (xs : List Int) : Prop := (a = none ∧ xs = []) ∨ ∃ b, a = some ⟨b, 0, none⟩ ∧ ∀ j, j < xs.length → w.cell? ⟨b, j, none⟩ = some (.int .u8 (xs.getD j 0))

theorem Txt.index {w : World} {a : Option Addr} {xs : List Int} (h : Txt w a xs) (hb : ∀ y ∈ xs, 0 ≤ y ∧ y ≤ 255) (n off C : Nat) (hn : n = xs.length) (hoff : off ≤ n) (hC : n ≤ C) (hC0 : a = none → C = 0) (m : Nat) :
    Calls Tryd.prog 26 #[.slice (if C = off then a else a.map (·.add off)) (n - off) (C - off), .int .u8 10] (w.drewN m) fun e w' => e = .returned (.int .i64 (idx (xs.drop off))) ∧ w' = w.drewN m := by
  subst hn
  rcases h with ⟨rfl, rfl⟩ | ⟨b, rfl, hc⟩
  · have := hC0 rfl
    subst this
    simp only [List.length_nil, Nat.le_zero_eq] at hoff
    subst hoff
    exact index_nil (w.drewN m)
  · have hl : (xs.drop off).length = xs.length - off := by simp
    have hb' : ∀ y ∈ xs.drop off, 0 ≤ y ∧ y ≤ 255 := fun y hy => hb y (List.mem_of_mem_drop hy)
    by_cases hco : C = off
    · rw [if_pos hco]
      exact index_any b 0 (xs.length - off) (C - off) (xs.drop off) (w.drewN m) hl (fun i hi => by omega) hb'
    · rw [if_neg hco]
      simp only [Option.map_some, Go.WideShapes.add_plain, Nat.zero_add]
      refine index_any b off (xs.length - off) (C - off) (xs.drop off) (w.drewN m) hl (fun i hi => ?_) hb'
      rw [show (w.drewN m).cell? ⟨b, off + i, none⟩ = w.cell? ⟨b, off + i, none⟩ from rfl, hc (off + i) (by omega)]
      simp [List.getD_eq_getElem?_getD]

set_option maxHeartbeats 1000000 in
set_option maxRecDepth 100000 in
theorem skip_whole (ib off n : Nat) (rv : Value) (a : Option Addr) (xs : List Int) (u : TypeId) (x : Value) (w : World) (hn : n = xs.length) (hN : n ≤ 1048576) (ho : off ≤ n) (ht : Txt w a xs) (hb : ∀ y ∈ xs, 0 ≤ y ∧ y ≤ 255)
    (hin : InB w ib rv (.slice a n n) off (.iface u x)) :
    Calls Tryd.prog 20 #[.pointer (some ⟨ib, 0, none⟩)] w fun e w' => e = .returned (.tuple #[]) ∧ InB w' ib rv (.slice a n n) (lfEnd xs off) (.iface u x) ∧ Below ib w w' := by
  have hA0 : a = none → n = 0 := fun h => by
    rcases ht with ⟨_, rfl⟩ | ⟨b, hb, _⟩
    · exact hn
    · rw [h] at hb; cases hb
  have HI := ht.index hb n off n hn ho (Nat.le_refl _) hA0
  have c1 := hin.c1
  have c2 := hin.c2
  have f2 := hin.fz 2
  have HIn : Hid (InB w ib rv (.slice a n n) off (.iface u x)) := hin
  by_cases hi : idx (xs.drop off) = -1
  · rw [hi] at HI
    have hst : lfEnd xs off = n := by unfold lfEnd; rw [if_pos hi, hn]
    rw [hst]
    have HAt : ∀ W : World, InB W ib rv (.slice a n n) n (.iface u x) → Calls Tryd.prog 27 #[.pointer (some ⟨ib, 0, none⟩), .int .i64 0] W fun e w' => e = .returned (.tuple #[.int .u8 0, .bool false]) ∧ Same W w' := fun W hW =>
      at_done ib 0 n n n rv a u x W (by omega) (by omega) (Nat.le_refl _) (by omega) hW
    clear hi hst ht hb hin hn
    by_cases hno : n = off
    · subst hno
      simp only [if_true, Nat.sub_self] at HI
      go_enter Tryd.func20, Tryd.ntmps20
      go_wp2
      refine wp_loop_rounds 1 ?_
      rw [rounds_succ]
      go_wp2
      go_quiet ((go_at_call 26; exact Calls.quiet_of_same (HI _)))
      go_wp2_with fail
      refine (HAt ((w.drewN nq).setCell ⟨ib, 2, none⟩ (.int .i64 (n : Int))) (InB.s2 (w := w.drewN nq) HIn.out n)).mono ?_
      rintro e w5 ⟨rfl, hs⟩
      go_wp2
      refine bodyPost_ret (results_none rfl _ _ _) rfl ⟨rfl, hs.inb (InB.s2 (w := w.drewN nq) HIn.out n), ?_⟩
      exact (Below.setCell (p := ⟨ib, 2, none⟩) (below_drewN (Below.refl _ _) _) (Nat.le_refl _) _).trans (hs.2.mono (by have := HIn.out.lt; simp [World.setCell]; exact Nat.le_of_lt this))
    · simp only [if_neg hno] at HI
      obtain ⟨A, hA⟩ : ∃ A, a.map (·.add off) = A := ⟨_, rfl⟩
      rw [hA] at HI
      go_enter Tryd.func20, Tryd.ntmps20
      go_wp2
      refine wp_loop_rounds 1 ?_
      rw [rounds_succ]
      go_wp2
      go_quiet ((go_at_call 26; exact Calls.quiet_of_same (HI _)))
      go_wp2_with fail
      refine (HAt ((w.drewN nq).setCell ⟨ib, 2, none⟩ (.int .i64 (n : Int))) (InB.s2 (w := w.drewN nq) HIn.out n)).mono ?_
      rintro e w5 ⟨rfl, hs⟩
      go_wp2
      refine bodyPost_ret (results_none rfl _ _ _) rfl ⟨rfl, hs.inb (InB.s2 (w := w.drewN nq) HIn.out n), ?_⟩
      exact (Below.setCell (p := ⟨ib, 2, none⟩) (below_drewN (Below.refl _ _) _) (Nat.le_refl _) _).trans (hs.2.mono (by have := HIn.out.lt; simp [World.setCell]; exact Nat.le_of_lt this))
  · obtain ⟨j, hj⟩ : ∃ j : Nat, idx (xs.drop off) = j := ⟨(idx (xs.drop off)).toNat, by have := idx_lo (xs.drop off); omega⟩
    have hjl : off + j < n := by have := idx_hi (xs.drop off); rw [hj] at this; simp at this; omega
    have hst : lfEnd xs off = off + j := by unfold lfEnd; rw [if_neg hi, hj]; simp
    rw [hst]
    rw [hj] at HI
    have hno : ¬ n = off := by omega
    simp only [if_neg hno] at HI
    obtain ⟨A, hA⟩ : ∃ A, a.map (·.add off) = A := ⟨_, rfl⟩
    rw [hA] at HI
    clear hi hj hst ht hb hin hn
    go_enter Tryd.func20, Tryd.ntmps20
    go_wp2
    refine wp_loop_rounds 1 ?_
    rw [rounds_succ]
    go_wp2
    go_quiet ((go_at_call 26; exact Calls.quiet_of_same (HI _)))
    go_wp2
    refine bodyPost_ret (results_none rfl _ _ _) rfl ⟨rfl, ?_, ?_⟩
    · rw [show ((off + j : Nat) : Int) = (off : Int) + (j : Int) by omega]
      exact InB.s2 (w := w.drewN nq) HIn.out _
    · exact Below.setCell (p := ⟨ib, 2, none⟩) (below_drewN (Below.refl _ _) _) (Nat.le_refl _) _

theorem zzskip_of (ib : Nat) (w : World) {R : World → Prop} (h : Calls Tryd.prog 20 #[.pointer (some ⟨ib, 0, none⟩)] w fun e w' => e = .returned (.tuple #[]) ∧ R w') :
    Calls Tryd.prog 10 #[.pointer (some ⟨ib, 0, none⟩)] w fun e w' => e = .returned (.tuple #[]) ∧ R w' := by
  go_enter Tryd.func10, Tryd.ntmps10
  go_wp2_with (go_at_call 20; refine h.mono ?_; rintro e w' ⟨rfl, hr⟩)
  go_end0
  exact ⟨rfl, hr⟩

theorem zzoff (ib : Nat) (rv bv : Value) (off : Int) (ev : Value) (w : World) (hin : InB w ib rv bv off ev) :
    Calls Tryd.prog 11 #[.pointer (some ⟨ib, 0, none⟩)] w fun e w' => e = .returned (.int .i64 off) ∧ w' = w := by
  have c2 := hin.c2
  clear hin
  go_enter Tryd.func11, Tryd.ntmps11
  go_wp2
  go_ret
  exact ⟨rfl, rfl⟩

end Go.Proofs.Qxb6608766aDoor.W
