/-
  THE LAW's OWN WALK at a text that is not nil and a position in range.
-/
import Derived.Test.Qxb6608766aDoorLaw
namespace Go.Proofs.Qxb6608766aDoor.W
open Go.RowKit
open Go.Proofs.Qxb6608766aDoor.Plain

theorem Same.cell {w w' : World} (h : Same w w') (p : Addr) : w'.cell? p = w.cell? p := World.cell?_of_block (by rw [h.1])

set_option maxHeartbeats 4000000 in
set_option maxRecDepth 100000 in
theorem law_any (a : Addr) (n c off : Nat) (T : List Int) (u : TypeId) (x : Value) (w : World) (hT : T.length = n) (hn : n ≤ 1048576) (ho : off ≤ n) (hB : ∀ y ∈ T, 0 ≤ y ∧ y ≤ 255)
    (hc0 : n = 0 ∨ ∃ b o, a = ⟨b, o, none⟩ ∧ ∀ i, i < n → w.cell? ⟨b, o + i, none⟩ = some (.int .u8 (T.getD i 0))) (hE : w.cell? ⟨0, 0, none⟩ = some (.iface u x)) :
    Calls Tryd.prog 4 #[.slice (some a) n c, .int .i64 (off : Int)] w fun e w' => e = .returned (.bool true) ∧ Below w.heap.size w w' := by
  have H1 := clone_some a n c T w hT hn hc0
  have hE0 : 0 < w.heap.size := World.block_lt_of_cell? _ _ hE
  have hQ := stop_le T off (by omega)
  have hQ1 : off ≤ lfEnd T off := hQ.1
  have hQ2 : lfEnd T off ≤ n := by omega
  have HStep : Hid (∀ q, q < n → lfEnd T q = if T[q]?.getD 0 = 10 then q else lfEnd T (q + 1)) := fun q hq => stop_step T q (by omega)
  have HEnd : Hid (lfEnd T n = n) := by unfold Hid; rw [← hT]; exact stop_end T
  have HDrop : Hid (lfEnd T off = off + lfEnd (T.drop off) 0) := stop_drop T off (by omega)
  have HQ0 : Hid (lfEnd T off = lfEnd T off) := rfl
  clear hc0 hQ
  go_enter Tryd.func4, Tryd.ntmps4
  go_wp2_with (go_at_call 12; refine (bytes_yes _ _ _ _ _ hn).mono ?_; rintro e w' ⟨rfl, hw⟩; subst w')
  refine H1.mono ?_
  rintro e w1 ⟨rfl, hc1, hlt1, hb1⟩
  have hc1' : n = 0 ∨ ∃ b o, (⟨w.heap.size, 0, none⟩ : Addr) = ⟨b, o, none⟩ ∧ ∀ i, i < n → w1.cell? ⟨b, o + i, none⟩ = some (.int .u8 (T.getD i 0)) := .inr ⟨w.heap.size, 0, rfl, fun i hi => by rw [Nat.zero_add]; exact hc1 i hi⟩
  have H2 := clone_some ⟨w.heap.size, 0, none⟩ n n T w1 hT hn hc1'
  have HC1 : Hid _ := hc1
  have HB1 : Hid _ := hb1
  clear H1 hc1 hc1' hb1
  go_wp2_with fail
  refine H2.mono ?_
  rintro e w2 ⟨rfl, hc2, hlt2, hb2⟩
  have HC2 : Hid (∀ j, j < n → w2.cell? ⟨w1.heap.size, j, none⟩ = some (.int .u8 (T.getD j 0))) := hc2
  have HB2 : Hid (Below w.heap.size w w2) := HB1.out.trans (hb2.mono (by omega))
  have HC12 : Hid (∀ j, j < n → w2.cell? ⟨w.heap.size, j, none⟩ = some (.int .u8 (T.getD j 0))) := fun j hj => (hb2.cell (p := ⟨w.heap.size, j, none⟩) hlt1).trans (HC1.out j hj)
  have hE2 : w2.cell? ⟨0, 0, none⟩ = some (.iface u x) := (HB2.out.cell (p := ⟨0, 0, none⟩) hE0).trans hE
  clear H2 hc2 hb2 HC1 HB1 hE
  generalize hb1e : w1.heap.size = b2 at *
  clear hb1e
  go_wp2_with fail
  go_loop [6] (fun v => ∃ q : Nat, off ≤ q ∧ q ≤ n ∧ v = .int .i64 (q : Int) ∧ lfEnd T q = lfEnd T off) (fun v => n - (intOf v).toNat)
  case atStart => exact ⟨off, Nat.le_refl _, ho, rfl, rfl⟩
  case round =>
    obtain ⟨q, hq1, hq2, rfl, hqs⟩ := hrel
    have HQS : Hid _ := hqs
    clear hqs
    have fin : (q = n ∨ (q < n ∧ T[q]?.getD 0 = 10)) → q = lfEnd T off := by
      intro h
      rw [← HQS.out]
      rcases h with h | ⟨h1, h2⟩
      · rw [h]; exact HEnd.out.symm
      · rw [HStep.out q h1, if_pos h2]
    by_cases hgo : q < n ∧ T[q]?.getD 0 ≠ 10
    · obtain ⟨hlt, ht⟩ := hgo
      have hcell := HC2.out q hlt
      rw [List.getD_eq_getElem?_getD] at hcell
      have HS := HStep.out q hlt
      rw [if_neg ht] at HS
      have HS' : Hid (lfEnd T (q + 1) = lfEnd T off) := by unfold Hid; rw [← HQS.out, HS]
      clear HS fin
      generalize T[q]?.getD 0 = t at hcell ht
      have hb : (t != 10) = true := by simpa using ht
      clear ht
      go_wp2
      go_round
      case rel => exact ⟨q + 1, by omega, by omega, by go_num, HS'.out⟩
      case measure => simp [intOf]; omega
    · have hex : q = n ∨ (q < n ∧ w2.cell? ⟨b2, q, none⟩ = some (.int .u8 10)) := by
        rcases Nat.lt_or_ge q n with h | h
        · have h2 : T[q]?.getD 0 = 10 := by
            rcases Classical.em (T[q]?.getD 0 = 10) with e | e
            · exact e
            · exact absurd ⟨h, e⟩ hgo
          have hcell := HC2.out q h
          rw [List.getD_eq_getElem?_getD, h2] at hcell
          exact .inr ⟨h, hcell⟩
        · exact .inl (by omega)
      have hqQ : q = lfEnd T off := by
        apply fin
        rcases Nat.lt_or_ge q n with h | h
        · rcases Classical.em (T[q]?.getD 0 = 10) with e | e
          · exact .inr ⟨h, e⟩
          · exact absurd ⟨h, e⟩ hgo
        · exact .inl (by omega)
      have HqQ : Hid _ := hqQ
      clear fin hgo HQS HStep HEnd hqQ
      have hlt12 : w.heap.size < w2.heap.size := by omega
      rcases hex with hex | ⟨hlt, hcell⟩
      · have hge : ¬ q < n := by omega
        have HQN : Hid _ := hex
        clear hex
        go_wp2_with fail
        refine (newInput (some ⟨w.heap.size, 0, none⟩) n n off u x w2 hE2).mono ?_
        rintro e w3 ⟨rfl, hw3⟩
        have hin3 : InB w3 w2.heap.size .nilIface (.slice (some ⟨w.heap.size, 0, none⟩) n n) off (.iface u x) := by rw [hw3]; exact inb_new _ _ _ _ _ _ _
        have hb3 : Below w2.heap.size w2 w3 := by rw [hw3]; exact (Below.refl _ _).alloc (Nat.le_refl _) _
        have htx : Txt w3 (some ⟨w.heap.size, 0, none⟩) T := .inr ⟨w.heap.size, rfl, fun j hj => (hb3.cell (p := ⟨w.heap.size, j, none⟩) hlt12).trans (HC12.out j (by omega))⟩
        have HSk := zzskip_of _ _ (skip_whole w2.heap.size off n .nilIface (some ⟨w.heap.size, 0, none⟩) T u x w3 hT.symm hn ho htx hB hin3)
        rw [← HqQ.out] at HSk
        have HB3 : Hid _ := hb3
        clear hw3 hin3 htx hb3
        go_wp2_with fail
        refine HSk.mono ?_
        rintro e w4 ⟨rfl, hin4, hb4⟩
        have HIn4 : Hid (InB w4 w2.heap.size .nilIface (.slice (some ⟨w.heap.size, 0, none⟩) n n) (q : Int) (.iface u x)) := hin4
        have HB4 : Hid (Below w2.heap.size w2 w4) := HB3.out.trans (hb4.mono (Nat.le_refl _))
        have hlt4 : b2 < w4.heap.size := by have := HB4.out.size; omega
        have HC4 : Hid (∀ j, j < n → w4.cell? ⟨b2, j, none⟩ = some (.int .u8 (T.getD j 0))) := fun j hj => (HB4.out.cell (p := ⟨b2, j, none⟩) hlt2).trans (HC2.out j hj)
        have HBw4 : Hid (Below w.heap.size w w4) := HB2.out.trans (HB4.out.mono (by omega))
        have hE4 : w4.cell? ⟨0, 0, none⟩ = some (.iface u x) := (HB4.out.cell (p := ⟨0, 0, none⟩) (by show 0 < w2.heap.size; omega)).trans hE2
        have hlt24 : w2.heap.size ≤ w4.heap.size := HB4.out.size
        obtain ⟨ad, had, hadc⟩ : ∃ ad : Addr, (if n = off then some (⟨b2, 0, none⟩ : Addr) else some ⟨b2, off, none⟩) = some ad ∧ (n - off = 0 ∨ ∃ b o, ad = ⟨b, o, none⟩ ∧ ∀ i, i < n - off → w4.cell? ⟨b, o + i, none⟩ = some (.int .u8 ((T.drop off).getD i 0))) := by
          by_cases hno : n = off
          · exact ⟨_, if_pos hno, .inl (by omega)⟩
          · refine ⟨_, if_neg hno, .inr ⟨b2, off, rfl, fun i hi => ?_⟩⟩
            rw [HC4.out (off + i) (by omega)]
            simp [List.getD_eq_getElem?_getD]
        have hDl : (T.drop off).length = n - off := by simp; omega
        have H5 := clone_some ad (n - off) (n - off) (T.drop off) w4 hDl (by omega) hadc
        clear hin4 hb4 HSk HB3 hE2 HC2 HC12 HB2 HB4 hadc
        go_wp2_with (go_at_call 11; refine (zzoff _ _ _ _ _ _ HIn4.out).mono ?_; rintro e w' ⟨rfl, hw⟩; subst w')
        refine H5.mono ?_
        rintro e w5 ⟨rfl, hc5, hlt5, hb5⟩
        have HB5 : Hid (Below w4.heap.size w4 w5) := hb5
        have hE5 : w5.cell? ⟨0, 0, none⟩ = some (.iface u x) := (hb5.cell (p := ⟨0, 0, none⟩) (by show 0 < w4.heap.size; omega)).trans hE4
        have hp6 := pos_new w5 (some ⟨w4.heap.size, 0, none⟩) w4.heap.size (T.drop off) u x
        rw [hDl] at hp6
        have HC5 : Hid _ := hc5
        clear H5 hb5 hc5 had hE4
        go_wp2_with fail
        refine (newReaderInput (some ⟨w4.heap.size, 0, none⟩) (n - off) (n - off) w5).mono ?_
        rintro e w6 ⟨rfl, hw6⟩
        rw [← hw6] at hp6
        have hb6 : Below w5.heap.size w5 w6 := by rw [hw6]; exact ((Below.refl _ _).alloc (Nat.le_refl _) _).alloc (by simp) _
        have hbase : Base w6 w5.heap.size (w5.heap.size + 1) w4.heap.size (some ⟨w4.heap.size, 0, none⟩) (T.drop off) u x :=
          ⟨by omega, fun y hy => hB y (List.mem_of_mem_drop hy), fun j hj => (hb6.cell (p := ⟨w4.heap.size, j, none⟩) hlt5).trans (HC5.out j (by omega)), (hb6.cell (p := ⟨0, 0, none⟩) (by show 0 < w5.heap.size; omega)).trans hE5, by omega, hlt5, by omega, fun _ => rfl⟩
        have HSk2 := zzskip_of _ _ (skip_stream w5.heap.size (w5.heap.size + 1) w4.heap.size (some ⟨w4.heap.size, 0, none⟩) (T.drop off) u x 0 0 0 0 0 none .nilIface w6 hbase hp6)
        have HBase : Hid _ := hbase
        have HB6 : Hid _ := hb6
        clear hw6 hp6 hb6 hbase hE5
        go_wp2_with fail
        refine HSk2.mono ?_
        rintro e w7 ⟨rfl, i7, L7, C7, off7, a7, ev7, hp7, hb7⟩
        have HPk := zzpeek_of (w5.heap.size + 1) 0 (((n - off : Nat) : Int) + 1) w7 (R := fun e w' => ∃ (A : Option Addr) (m c : Nat), e = .returned (.slice A m c) ∧ m + lfEnd (T.drop off) 0 = n - off ∧
          (m = 0 ∨ ∃ g o, A = some ⟨g, o, none⟩ ∧ ∀ j, j < m → w'.cell? ⟨g, o + j, none⟩ = some (.int .u8 ((T.drop off).getD (lfEnd (T.drop off) 0 + j) 0))) ∧ Below w5.heap.size w7 w') (by
            refine (peek_stream w5.heap.size (w5.heap.size + 1) w4.heap.size (some ⟨w4.heap.size, 0, none⟩) (T.drop off) u x (n - off) (lfEnd (T.drop off) 0) i7 L7 C7 off7 a7 ev7 w7 hDl.symm (HBase.out.below hb7) hp7).mono ?_
            rintro e w' ⟨A, m, c, rfl, h1, h2, h3⟩
            exact ⟨A, m, c, rfl, A, m, c, rfl, h1, h2, h3⟩)
        rw [show ((n - off : Nat) : Int) = (n : Int) - (off : Int) by omega] at HPk
        have HB7 : Hid _ := hb7
        clear HSk2 hp7 hb7
        go_wp2_with fail
        refine HPk.mono ?_
        rintro e w8 ⟨A0, m0, c0, rfl, A, m, c8, heq, hm, hcells, hb8⟩
        simp only [Ending.returned.injEq, Value.slice.injEq] at heq
        obtain ⟨rfl, rfl, rfl⟩ := heq
        have hqd : q = off + lfEnd (T.drop off) 0 := by rw [HqQ.out]; exact HDrop.out
        have hmq : m0 + q = n := by omega
        have hcm : ∀ j, j < n → w8.cell? ⟨b2, j, none⟩ = some (.int .u8 (T.getD j 0)) := fun j hj => by
          rw [hb8.cell (p := ⟨b2, j, none⟩) (by show b2 < w5.heap.size; omega), HB7.out.cell (p := ⟨b2, j, none⟩) (by show b2 < w5.heap.size; omega), HB6.out.cell (p := ⟨b2, j, none⟩) (by show b2 < w5.heap.size; omega), HB5.out.cell (p := ⟨b2, j, none⟩) hlt4]
          exact HC4.out j hj
        have hcr : ∀ j, j < m0 → ∃ g o, A0 = some ⟨g, o, none⟩ ∧ w8.cell? ⟨g, o + j, none⟩ = some (.int .u8 (T.getD (q + j) 0)) := fun j hj => by
          rcases hcells with h | ⟨g, o, hA, hc⟩
          · omega
          · refine ⟨g, o, hA, (hc j hj).trans ?_⟩
            rw [hqd]
            simp [List.getD_eq_getElem?_getD, Nat.add_assoc]
        have HBw8 : Hid (Below w.heap.size w w8) := HBw4.out.trans (((HB5.out.trans (HB6.out.mono (by omega))).mono (by omega)).trans ((HB7.out.trans hb8).mono (by omega)))
        have HCM : Hid _ := hcm
        have HCR : Hid _ := hcr
        have hne : ((m0 : Int) != (n : Int) - (q : Int)) = false := by simp; omega
        have hqn : q + m0 ≤ n := by omega
        clear HPk hm hcells hb8 hcm hcr hqd hmq HDrop HqQ HB7 HB6 HB5 HC4 HC5 HBase HIn4 HBw4
        go_wp2_with fail
        go_loopw [10] (fun v wr => ∃ k : Nat, k ≤ m0 ∧ v = .int .i64 (k : Int) ∧ Same w8 wr) (fun v _ => m0 - (intOf v).toNat)
        case atStart => exact ⟨0, Nat.zero_le _, rfl, Same.drewN w8 0⟩
        case round =>
          obtain ⟨k, hk, rfl, hs⟩ := hrel
          by_cases hlt : k < m0
          · obtain ⟨g, o, rfl, hc⟩ := HCR.out k hlt
            have e1 : wr.cell? ⟨g, o + k, none⟩ = some (.int .u8 (T.getD (q + k) 0)) := (hs.cell _).trans hc
            have e2 : wr.cell? ⟨b2, q + k, none⟩ = some (.int .u8 (T.getD (q + k) 0)) := (hs.cell _).trans (HCM.out (q + k) (by omega))
            generalize T.getD (q + k) 0 = t at e1 e2
            have hqk : (q : Int) + (k : Int) < (n : Int) := by omega
            have HS : Hid (Same w8 wr) := hs
            clear hs hc
            go_wp2
            go_quiet (fail)
            go_wp2
            go_roundw
            case rel => exact ⟨k + 1, by omega, by go_num, HS.out.trans (Same.drewN _ _)⟩
            case measure => simp [intOf]; omega
          · obtain rfl : k = m0 := by omega
            have HS : Hid (Same w8 wr) := hs
            clear hs
            go_wp2
            go_ret
            exact ⟨rfl, HBw8.out.trans (HS.out.2.mono (by have := HBw8.out.size; omega))⟩
      · go_wp2_with fail
        refine (newInput (some ⟨w.heap.size, 0, none⟩) n n off u x w2 hE2).mono ?_
        rintro e w3 ⟨rfl, hw3⟩
        have hin3 : InB w3 w2.heap.size .nilIface (.slice (some ⟨w.heap.size, 0, none⟩) n n) off (.iface u x) := by rw [hw3]; exact inb_new _ _ _ _ _ _ _
        have hb3 : Below w2.heap.size w2 w3 := by rw [hw3]; exact (Below.refl _ _).alloc (Nat.le_refl _) _
        have htx : Txt w3 (some ⟨w.heap.size, 0, none⟩) T := .inr ⟨w.heap.size, rfl, fun j hj => (hb3.cell (p := ⟨w.heap.size, j, none⟩) hlt12).trans (HC12.out j (by omega))⟩
        have HSk := zzskip_of _ _ (skip_whole w2.heap.size off n .nilIface (some ⟨w.heap.size, 0, none⟩) T u x w3 hT.symm hn ho htx hB hin3)
        rw [← HqQ.out] at HSk
        have HB3 : Hid _ := hb3
        clear hw3 hin3 htx hb3
        go_wp2_with fail
        refine HSk.mono ?_
        rintro e w4 ⟨rfl, hin4, hb4⟩
        have HIn4 : Hid (InB w4 w2.heap.size .nilIface (.slice (some ⟨w.heap.size, 0, none⟩) n n) (q : Int) (.iface u x)) := hin4
        have HB4 : Hid (Below w2.heap.size w2 w4) := HB3.out.trans (hb4.mono (Nat.le_refl _))
        have hlt4 : b2 < w4.heap.size := by have := HB4.out.size; omega
        have HC4 : Hid (∀ j, j < n → w4.cell? ⟨b2, j, none⟩ = some (.int .u8 (T.getD j 0))) := fun j hj => (HB4.out.cell (p := ⟨b2, j, none⟩) hlt2).trans (HC2.out j hj)
        have HBw4 : Hid (Below w.heap.size w w4) := HB2.out.trans (HB4.out.mono (by omega))
        have hE4 : w4.cell? ⟨0, 0, none⟩ = some (.iface u x) := (HB4.out.cell (p := ⟨0, 0, none⟩) (by show 0 < w2.heap.size; omega)).trans hE2
        have hlt24 : w2.heap.size ≤ w4.heap.size := HB4.out.size
        have hadc : n - off = 0 ∨ ∃ b o, (⟨b2, off, none⟩ : Addr) = ⟨b, o, none⟩ ∧ ∀ i, i < n - off → w4.cell? ⟨b, o + i, none⟩ = some (.int .u8 ((T.drop off).getD i 0)) := by
          refine .inr ⟨b2, off, rfl, fun i hi => ?_⟩
          rw [HC4.out (off + i) (by omega)]
          simp [List.getD_eq_getElem?_getD]
        have hDl : (T.drop off).length = n - off := by simp; omega
        have H5 := clone_some ⟨b2, off, none⟩ (n - off) (n - off) (T.drop off) w4 hDl (by omega) hadc
        clear hin4 hb4 HSk HB3 hE2 HC2 HC12 HB2 HB4 hadc
        go_wp2_with (go_at_call 11; refine (zzoff _ _ _ _ _ _ HIn4.out).mono ?_; rintro e w' ⟨rfl, hw⟩; subst w')
        refine H5.mono ?_
        rintro e w5 ⟨rfl, hc5, hlt5, hb5⟩
        have HB5 : Hid (Below w4.heap.size w4 w5) := hb5
        have hE5 : w5.cell? ⟨0, 0, none⟩ = some (.iface u x) := (hb5.cell (p := ⟨0, 0, none⟩) (by show 0 < w4.heap.size; omega)).trans hE4
        have hp6 := pos_new w5 (some ⟨w4.heap.size, 0, none⟩) w4.heap.size (T.drop off) u x
        rw [hDl] at hp6
        have HC5 : Hid _ := hc5
        clear H5 hb5 hc5 hE4
        go_wp2_with fail
        refine (newReaderInput (some ⟨w4.heap.size, 0, none⟩) (n - off) (n - off) w5).mono ?_
        rintro e w6 ⟨rfl, hw6⟩
        rw [← hw6] at hp6
        have hb6 : Below w5.heap.size w5 w6 := by rw [hw6]; exact ((Below.refl _ _).alloc (Nat.le_refl _) _).alloc (by simp) _
        have hbase : Base w6 w5.heap.size (w5.heap.size + 1) w4.heap.size (some ⟨w4.heap.size, 0, none⟩) (T.drop off) u x :=
          ⟨by omega, fun y hy => hB y (List.mem_of_mem_drop hy), fun j hj => (hb6.cell (p := ⟨w4.heap.size, j, none⟩) hlt5).trans (HC5.out j (by omega)), (hb6.cell (p := ⟨0, 0, none⟩) (by show 0 < w5.heap.size; omega)).trans hE5, by omega, hlt5, by omega, fun _ => rfl⟩
        have HSk2 := zzskip_of _ _ (skip_stream w5.heap.size (w5.heap.size + 1) w4.heap.size (some ⟨w4.heap.size, 0, none⟩) (T.drop off) u x 0 0 0 0 0 none .nilIface w6 hbase hp6)
        have HBase : Hid _ := hbase
        have HB6 : Hid _ := hb6
        clear hw6 hp6 hb6 hbase hE5
        go_wp2_with fail
        refine HSk2.mono ?_
        rintro e w7 ⟨rfl, i7, L7, C7, off7, a7, ev7, hp7, hb7⟩
        have HPk := zzpeek_of (w5.heap.size + 1) 0 (((n - off : Nat) : Int) + 1) w7 (R := fun e w' => ∃ (A : Option Addr) (m c : Nat), e = .returned (.slice A m c) ∧ m + lfEnd (T.drop off) 0 = n - off ∧
          (m = 0 ∨ ∃ g o, A = some ⟨g, o, none⟩ ∧ ∀ j, j < m → w'.cell? ⟨g, o + j, none⟩ = some (.int .u8 ((T.drop off).getD (lfEnd (T.drop off) 0 + j) 0))) ∧ Below w5.heap.size w7 w') (by
            refine (peek_stream w5.heap.size (w5.heap.size + 1) w4.heap.size (some ⟨w4.heap.size, 0, none⟩) (T.drop off) u x (n - off) (lfEnd (T.drop off) 0) i7 L7 C7 off7 a7 ev7 w7 hDl.symm (HBase.out.below hb7) hp7).mono ?_
            rintro e w' ⟨A, m, c, rfl, h1, h2, h3⟩
            exact ⟨A, m, c, rfl, A, m, c, rfl, h1, h2, h3⟩)
        rw [show ((n - off : Nat) : Int) = (n : Int) - (off : Int) by omega] at HPk
        have HB7 : Hid _ := hb7
        clear HSk2 hp7 hb7
        go_wp2_with fail
        refine HPk.mono ?_
        rintro e w8 ⟨A0, m0, c0, rfl, A, m, c8, heq, hm, hcells, hb8⟩
        simp only [Ending.returned.injEq, Value.slice.injEq] at heq
        obtain ⟨rfl, rfl, rfl⟩ := heq
        have hqd : q = off + lfEnd (T.drop off) 0 := by rw [HqQ.out]; exact HDrop.out
        have hmq : m0 + q = n := by omega
        have hcm : ∀ j, j < n → w8.cell? ⟨b2, j, none⟩ = some (.int .u8 (T.getD j 0)) := fun j hj => by
          rw [hb8.cell (p := ⟨b2, j, none⟩) (by show b2 < w5.heap.size; omega), HB7.out.cell (p := ⟨b2, j, none⟩) (by show b2 < w5.heap.size; omega), HB6.out.cell (p := ⟨b2, j, none⟩) (by show b2 < w5.heap.size; omega), HB5.out.cell (p := ⟨b2, j, none⟩) hlt4]
          exact HC4.out j hj
        have hcr : ∀ j, j < m0 → ∃ g o, A0 = some ⟨g, o, none⟩ ∧ w8.cell? ⟨g, o + j, none⟩ = some (.int .u8 (T.getD (q + j) 0)) := fun j hj => by
          rcases hcells with h | ⟨g, o, hA, hc⟩
          · omega
          · refine ⟨g, o, hA, (hc j hj).trans ?_⟩
            rw [hqd]
            simp [List.getD_eq_getElem?_getD, Nat.add_assoc]
        have HBw8 : Hid (Below w.heap.size w w8) := HBw4.out.trans (((HB5.out.trans (HB6.out.mono (by omega))).mono (by omega)).trans ((HB7.out.trans hb8).mono (by omega)))
        have HCM : Hid _ := hcm
        have HCR : Hid _ := hcr
        have hne : ((m0 : Int) != (n : Int) - (q : Int)) = false := by simp; omega
        have hqn : q + m0 ≤ n := by omega
        clear HPk hm hcells hb8 hcm hcr hqd hmq HDrop HqQ HB7 HB6 HB5 HC4 HC5 HBase HIn4 HBw4
        go_wp2_with fail
        go_loopw [10] (fun v wr => ∃ k : Nat, k ≤ m0 ∧ v = .int .i64 (k : Int) ∧ Same w8 wr) (fun v _ => m0 - (intOf v).toNat)
        case atStart => exact ⟨0, Nat.zero_le _, rfl, Same.drewN w8 0⟩
        case round =>
          obtain ⟨k, hk, rfl, hs⟩ := hrel
          by_cases hlt : k < m0
          · obtain ⟨g, o, rfl, hc⟩ := HCR.out k hlt
            have e1 : wr.cell? ⟨g, o + k, none⟩ = some (.int .u8 (T.getD (q + k) 0)) := (hs.cell _).trans hc
            have e2 : wr.cell? ⟨b2, q + k, none⟩ = some (.int .u8 (T.getD (q + k) 0)) := (hs.cell _).trans (HCM.out (q + k) (by omega))
            generalize T.getD (q + k) 0 = t at e1 e2
            have hqk : (q : Int) + (k : Int) < (n : Int) := by omega
            have HS : Hid (Same w8 wr) := hs
            clear hs hc
            go_wp2
            go_quiet (fail)
            go_wp2
            go_roundw
            case rel => exact ⟨k + 1, by omega, by go_num, HS.out.trans (Same.drewN _ _)⟩
            case measure => simp [intOf]; omega
          · obtain rfl : k = m0 := by omega
            have HS : Hid (Same w8 wr) := hs
            clear hs
            go_wp2
            go_ret
            exact ⟨rfl, HBw8.out.trans (HS.out.2.mono (by have := HBw8.out.size; omega))⟩

end Go.Proofs.Qxb6608766aDoor.W
