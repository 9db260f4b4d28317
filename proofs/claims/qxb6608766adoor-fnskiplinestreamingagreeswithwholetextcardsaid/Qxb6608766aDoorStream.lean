/-
  THE INPUT THAT STREAMS: 'at', 'skipLine', 'peek', 'ZZpeek'.
-/
import Derived.Test.Qxb6608766aDoorFill
import Derived.Test.Qxb6608766aDoorWhole
namespace Go.Proofs.Qxb6608766aDoor.W
open Go.RowKit
open Go.Proofs.Qxb6608766aDoor.Plain

/-- A state of the stream whose reading position is P. -/
structure Pos (w : World) (rb ib sb : Nat) (sa : Option Addr) (D : List Int) (u : TypeId) (x : Value) (P i : Nat) (a : Option Addr) (L C off : Nat) (ev : Value) : Prop where
  st : St w rb ib (.slice sa D.length D.length) D i a L C off ev
  ev : ev = .nilIface ∨ (ev = .iface u x ∧ i = D.length)
  pos : i + off = P + L

/-- What lies below the reader and does not turn. -/
structure Base (w : World) (rb ib sb : Nat) (sa : Option Addr) (D : List Int) (u : TypeId) (x : Value) : Prop where
  hN : D.length ≤ 1048576
  hB : ∀ y ∈ D, 0 ≤ y ∧ y ≤ 255
  hS : ∀ j, j < D.length → w.cell? ⟨sb, j, none⟩ = some (.int .u8 (D.getD j 0))
  h0 : w.cell? ⟨0, 0, none⟩ = some (.iface u x)
  h0b : 0 < rb
  hsb : sb < rb
  hrb : rb < ib
  hsa : 0 < D.length → sa = some ⟨sb, 0, none⟩

theorem Base.below {w w' : World} {rb ib sb : Nat} {sa : Option Addr} {D : List Int} {u : TypeId} {x : Value} (h : Base w rb ib sb sa D u x) (hb : Below rb w w') : Base w' rb ib sb sa D u x :=
  ⟨h.hN, h.hB, fun j hj => (hb.cell (p := ⟨sb, j, none⟩) h.hsb).trans (h.hS j hj), (hb.cell (p := ⟨0, 0, none⟩) h.h0b).trans h.h0, h.h0b, h.hsb, h.hrb, h.hsa⟩

set_option maxHeartbeats 1000000 in
set_option maxRecDepth 100000 in
theorem at_stream (rb ib sb : Nat) (sa : Option Addr) (D : List Int) (u : TypeId) (x : Value) (k P i0 L0 C0 off0 : Nat) (a0 : Option Addr) (ev0 : Value) (w : World) (hk : k ≤ 2097152)
    (hb : Base w rb ib sb sa D u x) (hp : Pos w rb ib sb sa D u x P i0 a0 L0 C0 off0 ev0) :
    Calls Tryd.prog 27 #[.pointer (some ⟨ib, 0, none⟩), .int .i64 k] w fun e w' =>
      ∃ (i L C off : Nat) (a : Option Addr) (ev : Value) (c : Int) (b : Bool), Pos w' rb ib sb sa D u x P i a L C off ev ∧ (off + k < L ∨ ev = .iface u x) ∧ e = .returned (.tuple #[.int .u8 c, .bool b]) ∧ b = decide (off + k < L) ∧ Below rb w w' := by
  have HF := fill_any rb ib sb sa D k P i0 L0 C0 off0 a0 ev0 u x w hb.hN hk hp.st hp.ev hp.pos hb.hS hb.h0 hb.h0b hb.hsb hb.hrb hb.hsa
  have c1 := hp.st.inp.c1
  have c2 := hp.st.inp.c2
  have hL := hp.st.hL
  have hi := hp.st.hi
  have ho := hp.st.ho
  have hN := hb.hN
  by_cases hlt : off0 + k < L0
  · obtain ⟨g, rfl, hcell⟩ := hp.st.buf.at hL hi hlt
    have hlt' : (off0 : Int) + (k : Int) < (L0 : Int) := by omega
    have HP : Hid _ := hp
    clear HF hp hb
    go_enter Tryd.func27, Tryd.ntmps27
    go_wp2
    go_ret2
    exact ⟨i0, L0, C0, off0, _, ev0, _, _, HP.out, .inl hlt, rfl, by simp [hlt], Below.refl _ _⟩
  · have hlt' : ¬ (off0 : Int) + (k : Int) < (L0 : Int) := by omega
    clear hp hb
    go_enter Tryd.func27, Tryd.ntmps27
    go_wp2_with (go_at_call 30; refine HF.mono ?_; rintro e w' ⟨i, L, C, off, a, ev, c, b, h1, h2, h3, h4, rfl, h5, h6⟩; have HH : Hid _ := And.intro h2 (And.intro h3 (And.intro h4 h5)); clear h2 h3 h4 h5)
    go_ret2
    exact ⟨i, L, C, off, a, ev, c, b, ⟨h1, HH.out.1, HH.out.2.1⟩, HH.out.2.2.1, rfl, HH.out.2.2.2, h6⟩

theorem Buf.txt {w : World} {ib i L C : Nat} {a : Option Addr} {D : List Int} (h : Buf w ib a L C (held D i L)) (hL : L ≤ i) (hi : i ≤ D.length) : Txt w a ((D.take i).drop (i - L)) ∧ (a = none → C = 0) ∧ L = ((D.take i).drop (i - L)).length := by
  have hlen : ((D.take i).drop (i - L)).length = L := by simp; omega
  obtain ⟨_, b1, _, b3⟩ := id h
  rcases b3 with ⟨rfl, hc⟩ | ⟨g, cur, rfl, _, hrow, _, ht⟩
  · exact ⟨.inl ⟨rfl, List.length_eq_zero_iff.1 (by omega)⟩, fun _ => hc, hlen.symm⟩
  · refine ⟨.inr ⟨g, rfl, fun j hj => ?_⟩, (fun h => by cases h), hlen.symm⟩
    rw [hlen] at hj
    obtain ⟨g', e, hcell⟩ := h.at hL hi hj
    cases e
    rw [hcell]
    simp only [List.getD_eq_getElem?_getD, List.getElem?_drop, List.getElem?_take]
    rw [if_pos (by omega)]

theorem meas {N P1 i off L gk : Nat} (h : 2 * (N - P1) + (if off = L then 1 else 0) < gk) (hp : i + off = P1 + L) (ho : off ≤ L) (hi : i ≤ N) : 2 * (N - i) + 1 < gk := by
  by_cases e : off = L
  · rw [if_pos e] at h
    obtain rfl : i = P1 := by omega
    exact h
  · omega

theorem St.off {w : World} {rb ib : Nat} {sv : Value} {D : List Int} {i : Nat} {a : Option Addr} {L C off : Nat} {ev : Value} (h : St w rb ib sv D i a L C off ev) (hrb : rb < ib) (o : Nat) (ho : o ≤ L) (z : Int) (hz : z = (o : Int)) :
    St (w.setCell ⟨ib, 2, none⟩ (.int .i64 z)) rb ib sv D i a L C o ev := by
  subst hz
  obtain ⟨⟨pr, h1⟩, h2, ⟨b0, b1, b2, b3⟩, h4, h5, h6⟩ := h
  have hoth : ∀ k, k ≠ ib → (w.setCell ⟨ib, 2, none⟩ (.int .i64 (o : Int))).heap[k]? = w.heap[k]? := fun k hk => Below.heap_setCell _ _ _ _ hk
  refine ⟨⟨pr, (hoth rb (by omega)).trans h1⟩, h2.s2 o, ⟨b0, b1, b2, ?_⟩, h4, h5, ho⟩
  rcases b3 with b3 | ⟨g, cur, e1, e2, e3, e4⟩
  · exact .inl b3
  · exact .inr ⟨g, cur, e1, e2, (hoth g (by omega)).trans e3, e4⟩

set_option maxHeartbeats 2000000 in
set_option maxRecDepth 100000 in
theorem skip_stream (rb ib sb : Nat) (sa : Option Addr) (D : List Int) (u : TypeId) (x : Value) (P i0 L0 C0 off0 : Nat) (a0 : Option Addr) (ev0 : Value) (w : World)
    (hb : Base w rb ib sb sa D u x) (hp : Pos w rb ib sb sa D u x P i0 a0 L0 C0 off0 ev0) :
    Calls Tryd.prog 20 #[.pointer (some ⟨ib, 0, none⟩)] w fun e w' => e = .returned (.tuple #[]) ∧
      ∃ (i L C off : Nat) (a : Option Addr) (ev : Value), Pos w' rb ib sb sa D u x (lfEnd D P) i a L C off ev ∧ Below rb w w' := by
  go_enter Tryd.func20, Tryd.ntmps20
  go_wp2
  go_loopg [] (2 * D.length + 2) (fun gk wr => ∃ (P1 i L C off : Nat) (a : Option Addr) (ev : Value), Pos wr rb ib sb sa D u x P1 i a L C off ev ∧ lfEnd D P1 = lfEnd D P ∧ Below rb w wr ∧ 2 * (D.length - P1) + (if off = L then 1 else 0) < gk)
  case atStart => exact ⟨P, i0, L0, C0, off0, a0, ev0, hp, rfl, Below.refl _ _, by split <;> omega⟩
  case round =>
    obtain ⟨P1, i, L, C, off, a, ev, hp1, hstop, hbel, hgk⟩ := hrel
    obtain ⟨ht, ha0, hLx⟩ := hp1.st.buf.txt hp1.st.hL hp1.st.hi
    have hL := hp1.st.hL
    have hi := hp1.st.hi
    have ho := hp1.st.ho
    have hLC := hp1.st.buf.2.1
    have hN := hb.hN
    have hpos := hp1.pos
    have hP1 : i - L + off = P1 := by omega
    have HI := ht.index (fun y hy => hb.hB y (List.mem_of_mem_take (List.mem_of_mem_drop hy))) L off C hLx ho hLC ha0
    rw [List.drop_drop, hP1] at HI
    have c1 := hp1.st.inp.c1
    have c2 := hp1.st.inp.c2
    have f2 := hp1.st.inp.fz 2
    have HP : Hid _ := hp1
    have HB : Hid _ := hb.below hbel
    have HBel : Hid _ := hbel
    have HGK : Hid _ := hgk
    have HStop : Hid _ := hstop
    have HPos : Hid (i + off = P1 + L) := hpos
    have HM : Hid (2 * (D.length - i) + 1 < gk) := meas hgk hpos ho hi
    have hPi : P1 ≤ i := by omega
    clear ht hLx hp1 hbel hgk hstop hp hb hpos hP1
    by_cases hj : idx ((D.take i).drop P1) = -1
    · have HNext : Hid (lfEnd D P1 = lfEnd D i) := stop_next D P1 i (by omega) hi hj
      rw [hj] at HI
      clear hj
      by_cases hco : C = off
      · obtain rfl : L = C := by omega
        subst hco
        simp only [if_true, Nat.sub_self] at HI
        go_wp2
        go_quiet ((go_at_call 26; exact Calls.quiet_of_same (HI _)))
        go_wp2_with fail
        have hp2 : Pos ((wr.drewN nq).setCell ⟨ib, 2, none⟩ (.int .i64 (L : Int))) rb ib sb sa D u x i i a L L L ev := ⟨St.off (w := wr.drewN nq) (HP.out.st.keep rfl) HB.out.hrb L (Nat.le_refl _) _ rfl, HP.out.ev, rfl⟩
        have hbl2 : Below rb wr ((wr.drewN nq).setCell ⟨ib, 2, none⟩ (.int .i64 (L : Int))) := Below.setCell (p := ⟨ib, 2, none⟩) (below_drewN (Below.refl _ _) _) (by have := HB.out.hrb; show rb ≤ ib; omega) _
        refine (at_stream rb ib sb sa D u x 0 i i L L L a ev _ (by omega) (HB.out.below hbl2) hp2).mono ?_
        rintro e w5 ⟨i5, L5, C5, off5, a5, ev5, c5, b5, hp5, hor, rfl, hb5, hbel5⟩
        have HP5 : Hid _ := hp5
        have HB5 : Hid _ := hbel5
        have HB2 : Hid _ := hbl2
        have HO5 : Hid _ := hor
        have HD5 : Hid _ := hb5
        clear hp5 hbel5 hbl2 hor hb5 hp2
        cases b5
        · go_wp2
          refine bodyPost_ret (results_none rfl _ _ _) rfl ⟨rfl, i5, L5, C5, off5, a5, ev5, ?_, HBel.out.trans (HB2.out.trans HB5.out)⟩
          have h1 : ¬ off5 + 0 < L5 := by have := HD5.out; simpa using this
          have h2 := HP5.out.st.ho
          have h3 := HP5.out.pos
          have h4 : i5 = D.length := by
            rcases HO5.out with h | h
            · exact absurd h h1
            · rcases HP5.out.ev with h' | h'
              · rw [h] at h'; cases h'
              · exact h'.2
          have h5 : i = D.length := by omega
          have h6 : lfEnd D P = i := by rw [← HStop.out, HNext.out, h5, stop_end]
          rw [h6]; exact HP5.out
        · go_wp2
          have h1 : off5 < L5 := by have := HD5.out; simpa using this
          go_roundg (2 * (D.length - i) + 1)
          case measure => exact HM.out
          case rel => exact ⟨i, i5, L5, C5, off5, a5, ev5, HP5.out, HNext.out.symm.trans HStop.out, HBel.out.trans (HB2.out.trans HB5.out), by rw [if_neg (by omega)]; omega⟩
      · simp only [if_neg hco] at HI
        obtain ⟨A, hA⟩ : ∃ A, a.map (·.add off) = A := ⟨_, rfl⟩
        rw [hA] at HI
        go_wp2
        go_quiet ((go_at_call 26; exact Calls.quiet_of_same (HI _)))
        go_wp2_with fail
        have hp2 : Pos ((wr.drewN nq).setCell ⟨ib, 2, none⟩ (.int .i64 (L : Int))) rb ib sb sa D u x i i a L C L ev := ⟨St.off (w := wr.drewN nq) (HP.out.st.keep rfl) HB.out.hrb L (Nat.le_refl _) _ rfl, HP.out.ev, rfl⟩
        have hbl2 : Below rb wr ((wr.drewN nq).setCell ⟨ib, 2, none⟩ (.int .i64 (L : Int))) := Below.setCell (p := ⟨ib, 2, none⟩) (below_drewN (Below.refl _ _) _) (by have := HB.out.hrb; show rb ≤ ib; omega) _
        refine (at_stream rb ib sb sa D u x 0 i i L C L a ev _ (by omega) (HB.out.below hbl2) hp2).mono ?_
        rintro e w5 ⟨i5, L5, C5, off5, a5, ev5, c5, b5, hp5, hor, rfl, hb5, hbel5⟩
        have HP5 : Hid _ := hp5
        have HB5 : Hid _ := hbel5
        have HB2 : Hid _ := hbl2
        have HO5 : Hid _ := hor
        have HD5 : Hid _ := hb5
        clear hp5 hbel5 hbl2 hor hb5 hp2
        cases b5
        · go_wp2
          refine bodyPost_ret (results_none rfl _ _ _) rfl ⟨rfl, i5, L5, C5, off5, a5, ev5, ?_, HBel.out.trans (HB2.out.trans HB5.out)⟩
          have h1 : ¬ off5 + 0 < L5 := by have := HD5.out; simpa using this
          have h2 := HP5.out.st.ho
          have h3 := HP5.out.pos
          have h4 : i5 = D.length := by
            rcases HO5.out with h | h
            · exact absurd h h1
            · rcases HP5.out.ev with h' | h'
              · rw [h] at h'; cases h'
              · exact h'.2
          have h5 : i = D.length := by omega
          have h6 : lfEnd D P = i := by rw [← HStop.out, HNext.out, h5, stop_end]
          rw [h6]; exact HP5.out
        · go_wp2
          have h1 : off5 < L5 := by have := HD5.out; simpa using this
          go_roundg (2 * (D.length - i) + 1)
          case measure => exact HM.out
          case rel => exact ⟨i, i5, L5, C5, off5, a5, ev5, HP5.out, HNext.out.symm.trans HStop.out, HBel.out.trans (HB2.out.trans HB5.out), by rw [if_neg (by omega)]; omega⟩
    · obtain ⟨j, hj'⟩ : ∃ j : Nat, idx ((D.take i).drop P1) = j := ⟨(idx ((D.take i).drop P1)).toNat, by have := idx_lo ((D.take i).drop P1); omega⟩
      have hjl : off + j < L := by have := idx_hi ((D.take i).drop P1); rw [hj'] at this; simp at this; have := HPos.out; omega
      have HFound : Hid (lfEnd D P1 = P1 + j) := stop_found D P1 i j hPi hj'
      rw [hj'] at HI
      have hco : ¬ C = off := by omega
      simp only [if_neg hco] at HI
      obtain ⟨A, hA⟩ : ∃ A, a.map (·.add off) = A := ⟨_, rfl⟩
      rw [hA] at HI
      clear hj hj'
      go_wp2
      go_quiet ((go_at_call 26; exact Calls.quiet_of_same (HI _)))
      go_wp2
      refine bodyPost_ret (results_none rfl _ _ _) rfl ⟨rfl, i, L, C, off + j, a, ev, ⟨?_, HP.out.ev, ?_⟩, ?_⟩
      · exact St.off (w := wr.drewN nq) (HP.out.st.keep rfl) HB.out.hrb (off + j) (by omega) _ (by omega)
      · rw [← HStop.out, HFound.out]; have := HPos.out; omega
      · exact Below.setCell (p := ⟨ib, 2, none⟩) (below_drewN HBel.out _) (by have := HB.out.hrb; show rb ≤ ib; omega) _

end Go.Proofs.Qxb6608766aDoor.W
