/-
  THE CONTRACT OF '(*input).fill' AT AN INPUT THAT STREAMS.
-/
import Derived.Test.Qxb6608766aDoorState
import Derived.Deep.LoopGhost
import Derived.Deep.DeepCutAuto
import Derived.Deep.RegionHeld3
import Derived.BigRegion
namespace Go.Proofs.Qxb6608766aDoor.W
open Go.RowKit
open Go.Proofs.Qxb6608766aDoor.Plain

theorem method_read (a : Addr) (w : World) : Sem.run Tryd.prog (method 209 43 (.pointer (some a)) "Read") w = .ok (71, .pointer (some a)) w := by kernel_rfl

set_option maxHeartbeats 4000000 in
set_option maxRecDepth 100000 in
theorem fill_any (rb ib sb : Nat) (sa : Option Addr) (D : List Int) (k P i0 L0 C0 off0 : Nat) (a0 : Option Addr) (ev0 : Value) (u : TypeId) (x : Value) (w : World) (hN : D.length ≤ 1048576) (hk : k ≤ 2097152)
    (hst : St w rb ib (.slice sa D.length D.length) D i0 a0 L0 C0 off0 ev0) (hev : ev0 = .nilIface ∨ (ev0 = .iface u x ∧ i0 = D.length)) (hP : i0 + off0 = P + L0)
    (hS : ∀ j, j < D.length → w.cell? ⟨sb, j, none⟩ = some (.int .u8 (D.getD j 0))) (h0 : w.cell? ⟨0, 0, none⟩ = some (.iface u x)) (h0b : 0 < rb) (hsb : sb < rb) (hrb : rb < ib) (hsa : 0 < D.length → sa = some ⟨sb, 0, none⟩) :
    Calls Tryd.prog 30 #[.pointer (some ⟨ib, 0, none⟩), .int .i64 k] w fun e w' =>
      ∃ (i L C off : Nat) (a : Option Addr) (ev : Value) (c : Int) (b : Bool), St w' rb ib (.slice sa D.length D.length) D i a L C off ev ∧ (ev = .nilIface ∨ (ev = .iface u x ∧ i = D.length)) ∧ i + off = P + L ∧
        (off + k < L ∨ ev = .iface u x) ∧ e = .returned (.tuple #[.int .u8 c, .bool b]) ∧ b = decide (off + k < L) ∧ Below rb w w' := by
  have h0c : ∀ W : World, Below rb w W → W.cell? ⟨0, 0, none⟩ = some (.iface u x) := fun W hb => (hb.cell (p := ⟨0, 0, none⟩) h0b).trans h0
  have hSc : ∀ W : World, Below rb w W → ∀ j, j < D.length → W.cell? ⟨sb, j, none⟩ = some (.int .u8 (D.getD j 0)) := fun W hb j hj => (hb.cell (p := ⟨sb, j, none⟩) hsb).trans (hS j hj)
  have H0c : Hid _ := h0c
  have HSA : Hid _ := hsa
  have HSc : Hid _ := hSc
  clear h0c hSc hsa
  go_enter Tryd.func30, Tryd.ntmps30
  go_wp2
  go_loopg [6] (D.length + 1) (fun gk em wr => ∃ (i L C off : Nat) (a : Option Addr) (ev : Value), em = .int .i64 0 ∧ St wr rb ib (.slice sa D.length D.length) D i a L C off ev ∧
      (ev = .nilIface ∨ (ev = .iface u x ∧ i = D.length)) ∧ i + off = P + L ∧ (ev = .nilIface → D.length - i < gk) ∧ Below rb w wr)
  case atStart => exact ⟨i0, L0, C0, off0, a0, ev0, rfl, hst, hev, hP, fun _ => by omega, Below.refl _ _⟩
  case round =>
    obtain ⟨i, L, C, off, a, ev, rfl, st, hev', hP', hgk, hbel⟩ := hrel
    have c1 := st.inp.c1
    have c2 := st.inp.c2
    have c3 := st.inp.c3
    have hL := st.hL
    have hi := st.hi
    have ho := st.ho
    have f1 := st.inp.fz 1
    have f2 := st.inp.fz 2
    have f3 := st.inp.fz 3
    have HE : Hid _ := hev'
    have HST : Hid _ := st
    have HBel : Hid _ := hbel
    have HGK : Hid _ := hgk
    have HP' : Hid _ := hP'
    clear st hbel hgk hP' hst hP hS h0 hev hev'
    by_cases hlt : off + k < L
    · have hd : decide ((L : Int) ≤ (off : Int) + (k : Int)) = false := by simp; omega
      obtain ⟨g, rfl, hcell⟩ := HST.out.buf.at hL hi hlt
      go_wp2
      go_quiet (fail)
      go_wp2
      go_ret2
      exact ⟨i, L, C, off, _, ev, _, _, HST.out.keep rfl, HE.out, HP'.out, .inl hlt, rfl, by simp [hlt], below_drewN HBel.out _⟩
    · have hge : (L : Int) ≤ (off : Int) + (k : Int) := by omega
      rcases HE.out with rfl | ⟨rfl, hiN⟩
      · clear HE
        have hgk := HGK.out rfl
        clear HGK
        go_wp2
        go_quiet (fail)
        go_upto_if 33 with (fail)
        go_cut [] (fun wc => ∃ (a : Option Addr) (L1 C1 : Nat), St wc rb ib (.slice sa D.length D.length) D i a L1 C1 0 .nilIface ∧ i = P + L1 ∧ Below rb w wc)
        case first =>
          by_cases hpos : 0 < off
          · obtain ⟨L1, rfl⟩ : ∃ L1, L = L1 + off := ⟨L - off, by omega⟩
            obtain ⟨_, hLC, hC63, hb3⟩ := HST.out.buf
            rcases hb3 with ⟨_, hc⟩ | ⟨g, cur, rfl, hig, hrow, hCl, htake⟩
            · omega
            obtain ⟨w1, cur1, hcp, hrow1, hlen1, htake1, hbel1⟩ := copy_down (W := wr.drewN (nq + 1)) hrow hCl hL hi hLC htake
            have hin1 : InB w1 ib (.iface 43 (.pointer (some ⟨rb, 0, none⟩))) (.slice (some ⟨g, 0, none⟩) (L1 + off) C) off .nilIface := (hbel1.block ib hig).trans HST.out.inp
            have d1 := hin1.c1
            have d2 := hin1.c2
            have e1 := hin1.fz 1
            have e2 := hin1.fz 2
            have HIn : Hid _ := hin1
            have HRow : Hid _ := hrow1
            have HT : Hid _ := htake1
            have HB1 : Hid _ := hbel1
            have HLen : Hid _ := hlen1
            clear hin1 hrow1 htake1 hbel1 hlen1 hrow hCl htake
            by_cases hCo : C = off
            · subst hCo
              obtain rfl : L1 = 0 := by omega
              simp only [if_true, Nat.zero_add, Nat.sub_self] at hcp c1 d1 hL ho hge hLC
              go_wp2
              go_region
              go_wp2
              go_meet
              case rel => exact ⟨_, 0, C, St.down (W := wr.drewN (nq + 1)) (HST.out.keep rfl) hrb hig HRow.out HLen.out HT.out HB1.out, by have := HP'.out; omega, Below.setCell (p := ⟨ib, 2, none⟩) (Below.setCell (p := ⟨ib, 1, none⟩) ((below_drewN HBel.out (nq + 1)).trans (HB1.out.mono (by omega))) (by show rb ≤ ib; omega) _) (by show rb ≤ ib; omega) _⟩
            · simp only [if_neg hCo] at hcp
              go_wp2
              go_region
              go_wp2
              go_meet
              case rel => exact ⟨_, L1, C, St.down (W := wr.drewN (nq + 1)) (HST.out.keep rfl) hrb hig HRow.out HLen.out HT.out HB1.out, by have := HP'.out; omega, Below.setCell (p := ⟨ib, 2, none⟩) (Below.setCell (p := ⟨ib, 1, none⟩) ((below_drewN HBel.out (nq + 1)).trans (HB1.out.mono (by omega))) (by show rb ≤ ib; omega) _) (by show rb ≤ ib; omega) _⟩
          · obtain rfl : off = 0 := by omega
            go_wp2
            go_meet
            case rel => exact ⟨a, L, C, HST.out.keep rfl, by have := HP'.out; omega, below_drewN HBel.out _⟩
        case rest =>
          obtain ⟨a1, L1, C1, st1, hiP, hbel1⟩ := hcut
          have d1 := st1.inp.c1
          have k1 := st1.inp.fz 1
          have hL1 := st1.hL
          obtain ⟨_, hLC1, hC163, hb3⟩ := st1.buf
          have HST1 : Hid _ := st1
          have HBel1 : Hid _ := hbel1
          have HiP : Hid _ := hiP
          have HB3 : Hid _ := hb3
          clear st1 hbel1 hiP hb3 c1 c2 c3 f1 f2 f3 HST HP' HBel hL ho hlt hge
          clear L C off a
          go_wp2
          go_quiet (fail)
          go_upto_if 69 with (fail)
          go_cut [] (fun wc => ∃ (a : Option Addr) (L1 C1 : Nat), St wc rb ib (.slice sa D.length D.length) D i a L1 C1 0 .nilIface ∧ i = P + L1 ∧ L1 < C1 ∧ Below rb w wc)
          case first =>
            by_cases hfull : L1 = C1
            · subst hfull
              have HIn : Hid (InB wc ib (.iface 43 (.pointer (some ⟨rb, 0, none⟩))) (.slice a1 L1 L1) ((0 : Nat) : Int) .nilIface) := HST1.out.inp
              have hib : ib < wc.heap.size := HIn.out.lt
              go_wp2
              rcases Nat.lt_or_ge L1 65536 with hmx | hmx
              · have HG : ∀ m, Calls Tryd.prog 35 #[.slice a1 L1 L1, .int .i64 65536] (wc.drewN m) fun e w' => ∃ (G : Nat) (cur : List Value), L1 < G ∧ G ≤ 9223372036854775807 ∧ e = .returned (.slice (some ⟨wc.heap.size, 0, none⟩) L1 G) ∧
                    Row w' wc.heap.size cur ∧ cur.length = G ∧ cur.take L1 = held D i L1 ∧ Below wc.heap.size wc w' := fun m => grow_buf (n := 65536) HST1.out.buf (by omega) (by omega) 65536 (by omega) m
                have hmi : (L1 : Int) < 65536 := by omega
                have HGG : Hid _ := HG
                clear HG hmx
                go_region_with (go_at_call 35; refine (HGG.out _).mono ?_; rintro e w5 ⟨G, cur5, hG, hG63, rfl, hr5, hl5, ht5, hb5⟩; have q1 := (show InB w5 ib _ _ _ _ from (hb5.block ib hib).trans HIn.out).c1; have q2 := (show InB w5 ib _ _ _ _ from (hb5.block ib hib).trans HIn.out).fz 1)
                all_goals
                  go_wp2
                  go_meet
                  case rel => exact ⟨_, L1, G, St.grown HST1.out hrb hG hG63 hr5 hl5 ht5 hb5, HiP.out, hG, Below.setCell (p := ⟨ib, 1, none⟩) (HBel1.out.trans (hb5.mono (by omega))) (by show rb ≤ ib; omega) _⟩
              · have HG : ∀ m, Calls Tryd.prog 35 #[.slice a1 L1 L1, .int .i64 (L1 : Int)] (wc.drewN m) fun e w' => ∃ (G : Nat) (cur : List Value), L1 < G ∧ G ≤ 9223372036854775807 ∧ e = .returned (.slice (some ⟨wc.heap.size, 0, none⟩) L1 G) ∧
                    Row w' wc.heap.size cur ∧ cur.length = G ∧ cur.take L1 = held D i L1 ∧ Below wc.heap.size wc w' := fun m => grow_buf (n := L1) HST1.out.buf (by omega) (by omega) (L1 : Int) (by omega) m
                have hmi : ¬ (L1 : Int) < 65536 := by omega
                have HGG : Hid _ := HG
                clear HG hmx
                go_region_with (go_at_call 35; refine (HGG.out _).mono ?_; rintro e w5 ⟨G, cur5, hG, hG63, rfl, hr5, hl5, ht5, hb5⟩; have q1 := (show InB w5 ib _ _ _ _ from (hb5.block ib hib).trans HIn.out).c1; have q2 := (show InB w5 ib _ _ _ _ from (hb5.block ib hib).trans HIn.out).fz 1)
                all_goals
                  go_wp2
                  go_meet
                  case rel => exact ⟨_, L1, G, St.grown HST1.out hrb hG hG63 hr5 hl5 ht5 hb5, HiP.out, hG, Below.setCell (p := ⟨ib, 1, none⟩) (HBel1.out.trans (hb5.mono (by omega))) (by show rb ≤ ib; omega) _⟩
            · have hb : ((L1 : Int) == (C1 : Int)) = false := by simp; omega
              go_wp2
              go_meet
              case rel => exact ⟨a1, L1, C1, HST1.out.keep rfl, HiP.out, by omega, below_drewN HBel1.out _⟩
          case rest =>
            obtain ⟨a2, L2, C2, st2, hiP2, hlt2, hbel2⟩ := hcut
            obtain ⟨⟨pr, hrd⟩, hin, ⟨b0, b1, b2, b3⟩, hL2, hi2, _⟩ := st2
            rcases b3 with ⟨_, hc⟩ | ⟨g, cur, rfl, hig, hrow, hcl, htk⟩
            · omega
            have e0 := hin.c0
            have e1 := hin.c1
            have HIn : Hid (InB wc ib (.iface 43 (.pointer (some ⟨rb, 0, none⟩))) (.slice (some ⟨g, 0, none⟩) L2 C2) ((0 : Nat) : Int) .nilIface) := hin
            have HRd : Hid (RdB wc rb (.slice sa D.length D.length) i pr) := hrd
            have HRow : Hid (Row wc g cur) := hrow
            have HBel2 : Hid (Below rb w wc) := hbel2
            have HTk : Hid _ := htk
            have HiP2 : Hid _ := hiP2
            clear hin hrd hrow hbel2 htk hiP2 b0 d1 k1 hL1 hLC1 hC163 HST1 HBel1 HiP HB3
            rcases Nat.lt_or_ge i D.length with hmore | hend
            · obtain rfl : sa = some ⟨sb, 0, none⟩ := HSA.out (by omega)
              obtain ⟨n, hn⟩ : ∃ n, n = Nat.min (D.length - i) (C2 - L2) := ⟨_, rfl⟩
              have HRE := read_some_st hN hsb hrb hig hmore HRd.out HIn.out HRow.out (HSc.out wc HBel2.out) hcl hlt2 b2 hn
              have hnN : i + n ≤ D.length := by have : n ≤ D.length - i := by rw [hn]; exact Nat.min_le_left _ _
                                                omega
              have hnC : L2 + n ≤ C2 := by have : n ≤ C2 - L2 := by rw [hn]; exact Nat.min_le_right _ _
                                           omega
              have hn0 : 0 < n := by rw [hn]; exact Nat.lt_min.2 ⟨by omega, by omega⟩
              clear hn
              have hmr := method_read ⟨rb, 0, none⟩
              have hne2 : ¬ C2 = L2 := by omega
              go_wp2
              go_region_held3 (fun w' => w'.cell? ⟨ib, 0, none⟩ = some (.iface 43 (.pointer (some ⟨rb, 0, none⟩))) ∧ w'.cell? ⟨ib, 1, none⟩ = some (.slice (some ⟨g, 0, none⟩) L2 C2)) (go_keep) (first | (go_at_call 71; refine HRE.mono ?_; rintro e w5 ⟨rfl, hA⟩; have q0 := hA.1.c0; have q1 := hA.1.c1))
              have q3 := hA.1.c3
              have k1 := hA.1.fz 1
              have k3 := hA.1.fz 3
              clear hmr e0 e1 HRE
              go_wp2
              go_region
              go_wp2
              go_roundg (D.length - (i + n) + 1)
              case measure => omega
              case rel =>
                have rt := read_take hL2 hnN hcl hnC HTk.out
                exact ⟨i + n, L2 + n, C2, 0, some ⟨g, 0, none⟩, .nilIface, rfl, St.read hA hrb hig hL2 hnN rt.2 hnC b2 rt.1 World.drew (fun _ => rfl), .inl rfl, by have := HiP2.out; omega, fun _ => by omega, (Below.setCell (p := ⟨ib, 3, none⟩) (Below.setCell (p := ⟨ib, 1, none⟩) (HBel2.out.trans hA.2.2.2) (by show rb ≤ ib; omega) _) (by show rb ≤ ib; omega) _).drew⟩
            · have hiN : i = D.length := by omega
              have HRE := read_eof_st (u := u) (x := x) hN hrb HRd.out hiN HIn.out HRow.out (H0c.out wc HBel2.out) (.slice (some ⟨g, L2, none⟩) (C2 - L2) (C2 - L2))
              have HiN : Hid _ := hiN
              clear hiN hend
              have hmr := method_read ⟨rb, 0, none⟩
              have hne2 : ¬ C2 = L2 := by omega
              go_wp2
              go_region_held3 (fun w' => w'.cell? ⟨ib, 0, none⟩ = some (.iface 43 (.pointer (some ⟨rb, 0, none⟩))) ∧ w'.cell? ⟨ib, 1, none⟩ = some (.slice (some ⟨g, 0, none⟩) L2 C2)) (go_keep) (first | (go_at_call 71; refine HRE.mono ?_; rintro e w5 ⟨rfl, hA⟩; have q0 := hA.1.c0; have q1 := hA.1.c1))
              have q3 := hA.1.c3
              have k1 := hA.1.fz 1
              have k3 := hA.1.fz 3
              clear hmr e0 e1 HRE
              go_wp2
              go_region
              go_wp2
              go_roundg 0
              case measure => omega
              case rel =>
                exact ⟨i, L2, C2, 0, some ⟨g, 0, none⟩, .iface u x, rfl, St.read (n := 0) hA hrb hig hL2 hi2 hcl b1 b2 HTk.out World.drew (fun _ => rfl), .inr ⟨rfl, HiN.out⟩, by have := HiP2.out; omega, (fun h => by cases h), (Below.setCell (p := ⟨ib, 3, none⟩) (Below.setCell (p := ⟨ib, 1, none⟩) (HBel2.out.trans hA.2.2.2) (by show rb ≤ ib; omega) _) (by show rb ≤ ib; omega) _).drew⟩
      · have HiN : Hid _ := hiN
        clear hiN HGK
        go_wp2
        go_quiet (fail)
        go_wp2
        go_ret2
        exact ⟨i, L, C, off, _, _, _, _, HST.out.keep rfl, .inr ⟨rfl, HiN.out⟩, HP'.out, .inr rfl, rfl, by simp [hlt], below_drewN HBel.out _⟩

end Go.Proofs.Qxb6608766aDoor.W
