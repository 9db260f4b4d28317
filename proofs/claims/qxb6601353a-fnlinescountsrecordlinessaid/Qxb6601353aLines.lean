/-
  THE CONTRACT OF '(*recordCounter).lines'.
-/
import Derived.Test.Qxb6601353aCopy
namespace Go.Proofs.Qxb6601353a.W
open Go.RowKit
open Go.Proofs.Qxb6601353a.Plain

/-- The counter's block. -/
def Ctr (w : World) (b : Nat) (r : Int) (qd : Bool) (l : Int) : Prop := w.heap[b]? = some (.cells #[.int .i64 r, .bool qd, .int .u8 l] 45 (0, 0))

theorem Ctr.c0 {w : World} {b : Nat} {r : Int} {qd : Bool} {l : Int} (h : Ctr w b r qd l) : w.cell? ⟨b, 0, none⟩ = some (.int .i64 r) := by unfold Ctr at h; simp [World.cell?, h]
theorem Ctr.c1 {w : World} {b : Nat} {r : Int} {qd : Bool} {l : Int} (h : Ctr w b r qd l) : w.cell? ⟨b, 1, none⟩ = some (.bool qd) := by unfold Ctr at h; simp [World.cell?, h]
theorem Ctr.c2 {w : World} {b : Nat} {r : Int} {qd : Bool} {l : Int} (h : Ctr w b r qd l) : w.cell? ⟨b, 2, none⟩ = some (.int .u8 l) := by unfold Ctr at h; simp [World.cell?, h]
theorem Ctr.fz {w : World} {b : Nat} {r : Int} {qd : Bool} {l : Int} (h : Ctr w b r qd l) (o : Nat) : w.frozen? ⟨b, o, none⟩ = false := frozen_of_row w b o _ 45 h
theorem Ctr.s2 {w : World} {b : Nat} {r : Int} {qd : Bool} {l : Int} (h : Ctr w b r qd l) (u : Int) : Ctr (w.setCell ⟨b, 2, none⟩ (.int .u8 u)) b r qd u := by
  have := heap_setCell_same w b 2 _ 45 (.int .u8 u) h
  exact this
theorem Ctr.s0 {w : World} {b : Nat} {r : Int} {qd : Bool} {l : Int} (h : Ctr w b r qd l) (u : Int) : Ctr (w.setCell ⟨b, 0, none⟩ (.int .i64 u)) b u qd l := by
  have := heap_setCell_same w b 0 _ 45 (.int .i64 u) h
  exact this

theorem Ctr.drew {w : World} {b : Nat} {r : Int} {qd : Bool} {l : Int} (h : Ctr w b r qd l) : Ctr w.drew b r qd l := h

theorem st_1 {l x0 : Int} {q : List Int} {n : Nat} (hq : q.length = n) (hx : q.getD 0 0 = x0) (hl : l = 0) (h1 : (n : Int) = 1) (h : (x0 == 13) = true) : st l q = 1 := by
  unfold st
  have e : q[0]?.getD 0 = 13 := by rw [← List.getD_eq_getElem?_getD, hx]; simpa using h
  rw [if_neg (by omega), if_pos ⟨hl, by omega, e⟩]
theorem st_2x {l x0 : Int} {q : List Int} {n : Nat} (hq : q.length = n) (hn : 0 < n) (hx : q.getD 0 0 = x0) (h : (x0 == 13) = false) : st l q = 2 := by
  unfold st
  have e : ¬ q[0]?.getD 0 = 13 := by rw [← List.getD_eq_getElem?_getD, hx]; simpa using h
  rw [if_neg (by omega), if_neg (fun c => e c.2.2)]
theorem st_2n {l : Int} {q : List Int} {n : Nat} (hq : q.length = n) (hn : 0 < n) (h : ¬ (n : Int) = 1) : st l q = 2 := by
  unfold st
  rw [if_neg (by omega), if_neg (fun c => h (by omega))]
theorem st_2l {l : Int} {q : List Int} {n : Nat} (hq : q.length = n) (hn : 0 < n) (h : ¬ l = 0) : st l q = 2 := by
  unfold st
  rw [if_neg (by omega), if_neg (fun c => h c.1)]
theorem st_any {l x0 : Int} {q : List Int} {n : Nat} (hq : q.length = n) (hn : 0 < n) (hx : q.getD 0 0 = x0) : (l = 0 → (n : Int) = 1 → (x0 == 13) = true → st l q = 1) ∧ ((x0 == 13) = false → st l q = 2) ∧ (¬ (n : Int) = 1 → st l q = 2) ∧ (¬ l = 0 → st l q = 2) :=
  ⟨fun a b c => st_1 hq hx a b c, st_2x hq hn hx, st_2n hq hn, st_2l hq hn⟩

theorem next {w : World} {bs o k j : Nat} {q : List Int} (hq : q.length = k) (hj : j ≤ k)
    (hcq : ∀ i, i < k → w.cell? ⟨bs, o + i, none⟩ = some (.int .u8 (q.getD i 0))) (hbq : ∀ x ∈ q, 0 ≤ x ∧ x ≤ 255) :
    ∃ o', (if k = j then some (⟨bs, o, none⟩ : Addr) else some ⟨bs, o + j, none⟩) = some ⟨bs, o', none⟩ ∧ (q.drop j).length = k - j ∧
      (∀ i, i < k - j → w.cell? ⟨bs, o' + i, none⟩ = some (.int .u8 ((q.drop j).getD i 0))) ∧ ∀ x ∈ q.drop j, 0 ≤ x ∧ x ≤ 255 := by
  refine ⟨if k = j then o else o + j, ?_, by simp; omega, fun i hi => ?_, fun x hx => hbq x (List.mem_of_mem_drop hx)⟩
  · split <;> rfl
  · rw [if_neg (by omega), Nat.add_assoc, hcq (j + i) (by omega)]
    simp [List.getD_eq_getElem?_getD]

def lenOf : Value → Nat | .slice _ n _ => n | _ => 0

set_option maxHeartbeats 400000 in
theorem lines_nil (b : Nat) (r : Int) (qd : Bool) (l : Int) (w : World) (hC : Ctr w b r qd l) :
    Calls Try.prog 17 #[.pointer (some ⟨b, 0, none⟩), .slice none 0 0] w fun e w' => e = .returned (.tuple #[]) ∧ w' = w := by
  have h2 := hC.c2
  clear hC
  go_enter Try.func17, Try.ntmps17
  go_wp2_with (fail)
  refine wp_loop_rounds 1 ?_
  rw [rounds_succ]
  go_wp2_with (go_at_call 18; refine (index_nil _).mono ?_; rintro e w' ⟨rfl, rfl⟩)
  refine bodyPost_ret (results_none rfl _ _ _) rfl ?_
  exact ⟨rfl, rfl⟩

set_option maxHeartbeats 1000000 in
theorem lines_any (b bs o0 : Nat) (r0 : Int) (qd : Bool) (l0 : Int) (n : Nat) (xs : List Int) (w : World) (hC : Ctr w b r0 qd l0) (hx : xs.length = n) (hn : n ≤ 1048576)
    (hc : ∀ i, i < n → w.cell? ⟨bs, o0 + i, none⟩ = some (.int .u8 (xs.getD i 0))) (hb : ∀ x ∈ xs, 0 ≤ x ∧ x ≤ 255) (hbs : bs < b) :
    Calls Try.prog 17 #[.pointer (some ⟨b, 0, none⟩), .slice (some ⟨bs, o0, none⟩) n n] w fun e w' => e = .returned (.tuple #[]) ∧
      Ctr w' b (go [] xs r0 l0).1 qd (go [] xs r0 l0).2 ∧ Below b w w' := by
  go_enter Try.func17, Try.ntmps17
  go_wp2_with (fail)
  go_loopw [1] (fun p wr => ∃ (o k : Nat) (q : List Int) (r l : Int), k ≤ n ∧ p = .slice (some ⟨bs, o, none⟩) k k ∧ q.length = k ∧ (∀ i, i < k → w.cell? ⟨bs, o + i, none⟩ = some (.int .u8 (q.getD i 0))) ∧
      (∀ x ∈ q, 0 ≤ x ∧ x ≤ 255) ∧ Ctr wr b r qd l ∧ go [] q r l = go [] xs r0 l0 ∧ Below b w wr)
    (fun p _ => lenOf p)
  case atStart => exact ⟨o0, n, xs, r0, l0, Nat.le_refl _, rfl, hx, hc, hb, hC, rfl, Below.refl _ _⟩
  case round =>
    obtain ⟨o, k, q, r, l, hk, rfl, hq, hcq, hbq, hCr, hgo, hbel⟩ := hrel
    have hcr : ∀ i, i < k → wr.cell? ⟨bs, o + i, none⟩ = some (.int .u8 (q.getD i 0)) := fun i hi => (hbel.cell (p := ⟨bs, o + i, none⟩) hbs).trans (hcq i hi)
    have hI := index_any bs o k k q wr hq hcr hbq
    by_cases hi : idx q = -1
    · rw [hi] at hI
      have HI := hI
      have hc2 := hCr.c2
      have hfz := hCr.fz 2
      have HG : Hid (go [] xs r0 l0 = (r, st l q)) := hgo.symm.trans (go_none q r l hi)
      have HQ : Hid (q.length = k) := hq
      rcases Nat.eq_zero_or_pos k with rfl | hpos
      · have HS : Hid (st l q = l) := by unfold Hid st; rw [if_pos hq]
        clear hcr hI hcq hgo hbq hq hc hb hx hbs hi
        go_wp2_with (go_at_call 18; refine HI.mono ?_; rintro e w' ⟨rfl, rfl⟩)
        refine bodyPost_ret (results_none rfl _ _ _) rfl ⟨rfl, ?_, hbel⟩
        rw [HG.out, HS.out]; exact hCr
      · have hc0 : wr.cell? ⟨bs, o, none⟩ = some (.int .u8 (q.getD 0 0)) := by simpa using hcr 0 hpos
        generalize hx0 : q.getD 0 0 = x0 at hc0
        have HX : Hid (q.getD 0 0 = x0) := hx0
        clear hcr hI hcq hgo hbq hq hc hb hx hbs hi hx0
        go_wp2_with (go_at_call 18; refine HI.mono ?_; rintro e w' ⟨rfl, rfl⟩)
        all_goals
          refine bodyPost_ret (results_none rfl _ _ _) rfl ⟨rfl, ?_, hbel.setCell (Nat.le_refl _) _⟩
          rw [HG.out]
          first
            | (rw [(st_any HQ.out hpos HX.out).1 ‹_› ‹_› ‹_›]; exact hCr.s2 _)
            | (rw [(st_any HQ.out hpos HX.out).2.1 ‹_›]; exact hCr.s2 _)
            | (rw [(st_any HQ.out hpos HX.out).2.2.1 ‹_›]; exact hCr.s2 _)
            | (rw [(st_any HQ.out hpos HX.out).2.2.2 ‹_›]; exact hCr.s2 _)
    · obtain ⟨i, hi'⟩ : ∃ i : Nat, idx q = i := ⟨(idx q).toNat, by have := idx_lo q; omega⟩
      have hik : i < k := by have := idx_hi q; omega
      rw [hi'] at hI
      have HI := hI
      have hc2 := hCr.c2
      have hc0 := hCr.c0
      have hfz := hCr.fz 2
      have hfz0 := hCr.fz 0
      have HG : Hid (go [] (q.drop (i + 1)) (inc r l (q.take i)) 0 = go [] xs r0 l0) := (go_some q r l i hi').symm.trans hgo
      have hk0 : ¬ k = 0 := by omega
      have HQ : Hid (q.length = k) := hq
      have HN : Hid _ := next (j := i + 1) hq (by omega) hcq hbq
      rcases Nat.eq_zero_or_pos i with rfl | hpos
      · have HS : Hid (st l (q.take 0) = l) := by unfold Hid st; rw [if_pos (by simp)]
        clear hcr hI hgo hq hc hb hx hi hcq hbq
        go_wp2_with (go_at_call 18; refine HI.mono ?_; rintro e w' ⟨rfl, rfl⟩)
        all_goals
          go_region
          all_goals go_wp2
          all_goals go_roundw
          case rel =>
            obtain ⟨o', h1, h2, h3, h4⟩ := HN.out
            first
              | (have hl2 : (l == 2) = true := by assumption
                 have HI2 : inc r l (q.take 0) = wrap64 (r + 1) := by unfold inc; rw [HS.out, if_pos (by simpa using hl2)]
                 exact ⟨o', k - 1, q.drop 1, _, 0, by omega, by rw [← h1], h2, h3, h4, ((hCr.s0 (wrap64 (r + 1))).s2 0).drew, by rw [← HI2]; exact HG.out, ((hbel.setCell (Nat.le_refl _) _).setCell (Nat.le_refl _) _).drew⟩)
              | (have hl2 : (l == 2) = false := by assumption
                 have HI2 : inc r l (q.take 0) = r := by unfold inc; rw [HS.out, if_neg (by simpa using hl2)]
                 exact ⟨o', k - 1, q.drop 1, _, 0, by omega, by rw [← h1], h2, h3, h4, (hCr.s2 0).drew, by rw [← HI2]; exact HG.out, (hbel.setCell (Nat.le_refl _) _).drew⟩)
          case measure => simp [lenOf]; omega
      · have hcx : wr.cell? ⟨bs, o, none⟩ = some (.int .u8 (q.getD 0 0)) := by simpa using hcr 0 (by omega)
        generalize hx0 : q.getD 0 0 = x0 at hcx
        have HX : Hid ((q.take i).getD 0 0 = x0) := by
          unfold Hid; rw [← hx0]; simp [List.getD_eq_getElem?_getD, hpos]
        have HT : Hid ((q.take i).length = i) := by unfold Hid; simp; omega
        clear hcr hI hgo hq hc hb hx hi hx0 hcq hbq
        go_wp2_with (go_at_call 18; refine HI.mono ?_; rintro e w' ⟨rfl, rfl⟩)
        all_goals
          go_region
          all_goals go_wp2
          all_goals go_roundw
          case rel =>
            obtain ⟨o', h1, h2, h3, h4⟩ := HN.out
            have HA := st_any (l := l) HT.out hpos HX.out
            first
              | (have t1 : (x0 == 13) = true := by assumption
                 have t2 : (i : Int) = 1 := by assumption
                 have HI2 : inc r l (q.take i) = r := by unfold inc; rw [HA.1 ‹_› t2 t1, if_neg (by decide)]
                 obtain rfl : i = 1 := by omega
                 exact ⟨o', k - 2, q.drop 2, _, 0, by omega, by rw [← h1], h2, h3, h4, ((hCr.s2 1).s2 0).drew, by rw [← HI2]; exact HG.out, ((hbel.setCell (Nat.le_refl _) _).setCell (Nat.le_refl _) _).drew⟩)
              | (have t1 : (x0 == 13) = false := by assumption
                 have t2 : (i : Int) = 1 := by assumption
                 have HI2 : inc r l (q.take i) = wrap64 (r + 1) := by unfold inc; rw [HA.2.1 t1, if_pos rfl]
                 obtain rfl : i = 1 := by omega
                 exact ⟨o', k - 2, q.drop 2, _, 0, by omega, by rw [← h1], h2, h3, h4, (((hCr.s2 2).s0 (wrap64 (r + 1))).s2 0).drew, by rw [← HI2]; exact HG.out, (((hbel.setCell (Nat.le_refl _) _).setCell (Nat.le_refl _) _).setCell (Nat.le_refl _) _).drew⟩)
              | (have HI2 : inc r l (q.take i) = wrap64 (r + 1) := by unfold inc; first | rw [HA.2.2.1 ‹_›, if_pos rfl] | rw [HA.2.2.2 ‹_›, if_pos rfl]
                 exact ⟨o', k - (i + 1), q.drop (i + 1), _, 0, by omega, by rw [← h1], h2, h3, h4, (((hCr.s2 2).s0 (wrap64 (r + 1))).s2 0).drew, by rw [← HI2]; exact HG.out, (((hbel.setCell (Nat.le_refl _) _).setCell (Nat.le_refl _) _).setCell (Nat.le_refl _) _).drew⟩)
          case measure => simp [lenOf]; omega

end Go.Proofs.Qxb6601353a.W
