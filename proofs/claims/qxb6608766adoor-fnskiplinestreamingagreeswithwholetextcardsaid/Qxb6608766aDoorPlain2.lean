/-
  MORE PLAIN MATHEMATICS: where 'skipLine' stops. Nothing of the program.
-/
import Derived.Test.Qxb6608766aDoorPlain
namespace Go.Proofs.Qxb6608766aDoor.Plain

theorem idx_app (a b : List Int) : idx (a ++ b) = if idx a = -1 then (if idx b = -1 then -1 else a.length + idx b) else idx a := by
  induction a with
  | nil => by_cases h : idx b = -1 <;> simp [idx, h]
  | cons x a ih =>
    simp only [List.cons_append, idx, ih]
    have h1 := idx_lo a
    have h2 := idx_lo b
    by_cases hx : x = 10
    · simp [hx]
    · by_cases ha : idx a = -1
      · by_cases hb : idx b = -1
        · simp [hx, ha, hb]
        · simp only [hx, ha, hb, if_false, if_true, List.length_cons]
          rw [if_neg (by omega)]
          omega
      · simp only [hx, ha, if_false]
        rw [if_neg (by omega)]

/-- Where 'skipLine' stops: the first line feed at or behind 'off', or the end. -/
def lfEnd (xs : List Int) (off : Nat) : Nat := if idx (xs.drop off) = -1 then xs.length else off + (idx (xs.drop off)).toNat

theorem drop_split (D : List Int) (P i : Nat) (h : P ≤ i) : D.drop P = (D.take i).drop P ++ D.drop i := by
  rw [List.drop_take]
  have := List.take_append_drop (i - P) (D.drop P)
  rw [List.drop_drop, show P + (i - P) = i by omega] at this
  exact this.symm

theorem stop_found (D : List Int) (P i j : Nat) (h : P ≤ i) (hj : idx ((D.take i).drop P) = j) : lfEnd D P = P + j := by
  unfold lfEnd
  rw [drop_split D P i h, idx_app, hj]
  rw [if_neg (show ¬ (j : Int) = -1 by omega), if_neg (show ¬ (j : Int) = -1 by omega)]
  omega

theorem stop_next (D : List Int) (P i : Nat) (h : P ≤ i) (hi : i ≤ D.length) (hj : idx ((D.take i).drop P) = -1) : lfEnd D P = lfEnd D i := by
  unfold lfEnd
  rw [drop_split D P i h, idx_app, if_pos hj]
  have h1 := idx_lo (D.drop i)
  have hl : ((D.take i).drop P).length = i - P := by simp; omega
  by_cases hb : idx (D.drop i) = -1
  · simp [hb]
  · rw [if_neg hb, if_neg hb, if_neg (by omega), hl]
    omega

theorem stop_end (D : List Int) : lfEnd D D.length = D.length := by
  unfold lfEnd
  rw [List.drop_length]
  rfl

theorem stop_le (D : List Int) (P : Nat) (h : P ≤ D.length) : P ≤ lfEnd D P ∧ lfEnd D P ≤ D.length := by
  unfold lfEnd
  have h1 := idx_lo (D.drop P)
  have h2 := idx_hi (D.drop P)
  simp at h2
  split <;> omega

/-- The law's own search. -/
theorem stop_step (D : List Int) (q : Nat) (hq : q < D.length) : lfEnd D q = if D[q]?.getD 0 = 10 then q else lfEnd D (q + 1) := by
  unfold lfEnd
  have hd : D.drop q = D[q] :: D.drop (q + 1) := by simp
  have hg : D[q]?.getD 0 = D[q] := by simp [hq]
  rw [hd, hg]
  simp only [idx]
  have h1 := idx_lo (D.drop (q + 1))
  by_cases hx : D[q] = 10
  · simp [hx]
  · simp only [if_neg hx]
    by_cases hb : idx (D.drop (q + 1)) = -1
    · simp [hb]
    · simp only [if_neg hb]
      rw [if_neg (by omega)]
      omega

/-- The search over a text's tail. -/
theorem stop_drop (T : List Int) (off : Nat) (h : off ≤ T.length) : lfEnd T off = off + lfEnd (T.drop off) 0 := by
  unfold lfEnd
  simp only [List.drop_zero, List.length_drop]
  split <;> omega

end Go.Proofs.Qxb6608766aDoor.Plain
