/-
  THE INPUT THAT STREAMS: 'peek', 'ZZpeek': all that is left.
-/
import Derived.Test.Qxb6608766aDoorStream
namespace Go.Proofs.Qxb6608766aDoor.W
open Go.RowKit
open Go.Proofs.Qxb6608766aDoor.Plain

set_option maxHeartbeats 2000000 in
set_option maxRecDepth 100000 in
theorem peek_stream (rb ib sb : Nat) (sa : Option Addr) (D : List Int) (u : TypeId) (x : Value) (N P i0 L0 C0 off0 : Nat) (a0 : Option Addr) (ev0 : Value) (w : World) (hNN : N = D.length)
    (hb : Base w rb ib sb sa D u x) (hp : Pos w rb ib sb sa D u x P i0 a0 L0 C0 off0 ev0) :
    Calls Tryd.prog 22 #[.pointer (some ⟨ib, 0, none⟩), .int .i64 0, .int .i64 ((N : Int) + 1)] w fun e w' => ∃ (A : Option Addr) (m c : Nat), e = .returned (.slice A m c) ∧ m + P = N ∧
      (m = 0 ∨ ∃ g o, A = some ⟨g, o, none⟩ ∧ ∀ j, j < m → w'.cell? ⟨g, o + j, none⟩ = some (.int .u8 (D.getD (P + j) 0))) ∧ Below rb w w' := by
  have hN := hb.hN
  have HA := at_stream rb ib sb sa D u x D.length P i0 L0 C0 off0 a0 ev0 w (by omega) hb hp
  rw [← hNN] at HA hN
  clear hb hp
  have HNN : Hid _ := hNN
  clear hNN
  go_enter Tryd.func22, Tryd.ntmps22
  go_wp2_with fail
  refine HA.mono ?_
  rintro e w5 ⟨i, L, C, off, a, ev, c, b, hp, hor, rfl, hbd, hbel⟩
  have hL := hp.st.hL
  have hi := hp.st.hi
  have ho := hp.st.ho
  have hLC := hp.st.buf.2.1
  have hC63 := hp.st.buf.2.2.1
  have hpos := hp.pos
  have hiN : i = N := by
    rcases hor with h | h
    · have := HNN.out; omega
    · rcases hp.ev with h' | h'
      · rw [h] at h'; cases h'
      · rw [h'.2, HNN.out]
  have c1 := hp.st.inp.c1
  have c2 := hp.st.inp.c2
  have HP : Hid _ := hp
  have HBel : Hid _ := hbel
  have HPos : Hid _ := And.intro hpos hiN
  have hLN : L ≤ N := by omega
  have hat := fun (j : Nat) (hj : j < L) => hp.st.buf.at hL hi hj
  have HAt : Hid _ := hat
  clear HA hp hbel hor hbd hpos hiN hat hL hi
  have m1 : ¬ (L : Int) < (off : Int) := by omega
  have m2 : (L : Int) < (off : Int) + ((N : Int) + 1) := by omega
  by_cases hco : C = off
  · obtain rfl : L = C := by omega
    subst hco
    go_wp2
    go_quiet (fail)
    go_wp2
    go_ret
    exact ⟨a, 0, 0, rfl, by have := HPos.out; omega, .inl rfl, below_drewN HBel.out _⟩
  · obtain ⟨g, rfl⟩ : ∃ g, a = some ⟨g, 0, none⟩ := by
      rcases HP.out.st.buf.2.2.2 with ⟨_, h⟩ | ⟨g, _, h, _⟩
      · omega
      · exact ⟨g, h⟩
    go_wp2
    go_quiet (fail)
    go_wp2
    go_ret
    refine ⟨some ⟨g, off, none⟩, L - off, C - off, rfl, by have := HPos.out; omega, .inr ⟨g, off, rfl, fun j hj => ?_⟩, below_drewN HBel.out _⟩
    obtain ⟨g', e, hcell⟩ := HAt.out (off + j) (by omega)
    cases e
    refine Eq.trans hcell ?_
    have h1 := HPos.out
    rw [show i - L + (off + j) = P + j by omega]

theorem zzpeek_of (ib : Nat) (k n : Int) (w : World) {R : Ending → World → Prop} (h : Calls Tryd.prog 22 #[.pointer (some ⟨ib, 0, none⟩), .int .i64 k, .int .i64 n] w fun e w' => ∃ (A : Option Addr) (m c : Nat), e = .returned (.slice A m c) ∧ R e w') :
    Calls Tryd.prog 14 #[.pointer (some ⟨ib, 0, none⟩), .int .i64 k, .int .i64 n] w fun e w' => ∃ (A : Option Addr) (m c : Nat), e = .returned (.slice A m c) ∧ R e w' := by
  go_enter Tryd.func14, Tryd.ntmps14
  go_wp2_with (go_at_call 22; refine h.mono ?_; rintro e w' ⟨A, m, c, rfl, hr⟩)
  go_ret
  exact ⟨A, m, c, rfl, hr⟩

end Go.Proofs.Qxb6608766aDoor.W
