/-
  THE PLAIN MATHEMATICS of 'FnLinesCountsRecordLines': what 'lines' and the law's own loop compute, over lists of integers. Nothing of the program.
-/
import Derived.Lib.Bytealg
import Derived.Lib.Bytes
import Derived.RowKit
namespace Go.Proofs.Qxb6601353a.Plain
open Go.RowKit (wrap64)

/-- The line's state behind bytes that hold no line break. -/
def st (l : Int) (seg : List Int) : Int :=
  if seg.length = 0 then l else if l = 0 ∧ seg.length = 1 ∧ seg[0]?.getD 0 = 13 then 1 else 2

/-- What is counted where a line break ends 'seg'. -/
def inc (r l : Int) (seg : List Int) : Int := if st l seg = 2 then wrap64 (r + 1) else r

/-- The counter behind the bytes 'rest', where 'seg' is what the line under way holds. -/
def go (seg : List Int) : List Int → Int → Int → Int × Int
  | [], r, l => (r, st l seg)
  | x :: rest, r, l => if x = 10 then go [] rest (inc r l seg) 0 else go (seg ++ [x]) rest r l

theorem go_app (a : List Int) (ha : ∀ x ∈ a, x ≠ 10) : ∀ (seg b : List Int) (r l : Int), go seg (a ++ b) r l = go (seg ++ a) b r l := by
  induction a with
  | nil => intro seg b r l; simp
  | cons x a ih =>
    intro seg b r l
    have hx : x ≠ 10 := ha x (by simp)
    simp only [List.cons_append, go, if_neg hx]
    rw [ih (fun y hy => ha y (by simp [hy]))]
    simp

/-- The first line feed's place, or -1. -/
def idx : List Int → Int
  | [] => -1
  | x :: l => if x = 10 then 0 else if idx l = -1 then -1 else idx l + 1

theorem idx_lo (l : List Int) : -1 ≤ idx l := by
  induction l with
  | nil => simp [idx]
  | cons x l ih => simp only [idx]; split; omega; split <;> omega

theorem idx_hi (l : List Int) : idx l < l.length := by
  induction l with
  | nil => simp [idx]
  | cons x l ih => simp only [idx, List.length_cons]; split; omega; split <;> omega

theorem idx_none (l : List Int) (h : idx l = -1) : ∀ x ∈ l, x ≠ 10 := by
  induction l with
  | nil => simp
  | cons x l ih =>
    simp only [idx] at h
    by_cases hx : x = 10
    · simp [hx] at h
    · simp only [if_neg hx] at h
      by_cases hi : idx l = -1
      · intro y hy
        rcases List.mem_cons.1 hy with rfl | hy
        · exact hx
        · exact ih hi y hy
      · simp only [if_neg hi] at h
        have := idx_lo l
        omega

theorem idx_some (l : List Int) (n : Nat) (h : idx l = n) : l = l.take n ++ 10 :: l.drop (n + 1) ∧ ∀ x ∈ l.take n, x ≠ 10 := by
  induction l generalizing n with
  | nil => simp [idx] at h
  | cons x l ih =>
    simp only [idx] at h
    by_cases hx : x = 10
    · simp [hx] at h
      have : n = 0 := by omega
      subst this
      simp [hx]
    · simp only [if_neg hx] at h
      by_cases hi : idx l = -1
      · simp only [if_pos hi] at h; omega
      · simp only [if_neg hi] at h
        have := idx_lo l
        obtain ⟨m, rfl⟩ : ∃ m, n = m + 1 := ⟨n - 1, by omega⟩
        obtain ⟨h1, h2⟩ := ih m (by omega)
        refine ⟨?_, ?_⟩
        · simp only [List.take_succ_cons, List.drop_succ_cons, List.cons_append]
          rw [← h1]
        · intro y hy
          rcases List.mem_cons.1 hy with rfl | hy
          · exact hx
          · exact h2 y hy

theorem go_none (l : List Int) (r c : Int) (h : idx l = -1) : go [] l r c = (r, st c l) := by
  have := go_app l (idx_none l h) [] [] r c
  simp only [List.append_nil, List.nil_append] at this
  rw [this]; rfl

theorem go_some (l : List Int) (r c : Int) (n : Nat) (h : idx l = n) : go [] l r c = go [] (l.drop (n + 1)) (inc r c (l.take n)) 0 := by
  obtain ⟨h1, h2⟩ := idx_some l n h
  have := go_app (l.take n) h2 [] (10 :: l.drop (n + 1)) r c
  rw [← h1] at this
  rw [this]
  simp [go]

theorem idx_lib (xs : List Int) (h : ∀ n ∈ xs, 0 ≤ n ∧ n ≤ 255) : Lib.indexByte (Lib.bytesOf xs) 10 = idx xs := by
  induction xs with
  | nil => rfl
  | cons x xs ih =>
    have hx := h x (by simp)
    have := ih fun n hn => h n (by simp [hn])
    simp only [Lib.bytesOf, List.map_cons, Lib.indexByte, idx] at this ⊢
    rw [this]
    have e : (UInt8.ofNat x.toNat == 10) = decide (x = 10) := by
      rw [Bool.eq_iff_iff]
      simp only [beq_iff_eq, decide_eq_true_eq, ← UInt8.toNat_inj, UInt8.toNat_ofNat', UInt8.toNat_ofNat]
      omega
    rw [e]
    by_cases h1 : x = 10 <;> by_cases h2 : idx xs = -1 <;> simp [h1, h2]

/-- One step of the law's own loop. -/
theorem go_step (xs : List Int) (s j : Nat) (r l : Int) (hs : s ≤ j) (hj : j < xs.length) :
    go ((xs.take j).drop s) (xs.drop j) r l = if xs[j]?.getD 0 = 10 then go [] (xs.drop (j + 1)) (inc r l ((xs.take j).drop s)) 0 else go ((xs.take (j + 1)).drop s) (xs.drop (j + 1)) r l := by
  have hd : xs.drop j = xs[j] :: xs.drop (j + 1) := by simp
  have ht : (xs.take (j + 1)).drop s = (xs.take j).drop s ++ [xs[j]] := by
    rw [List.take_succ_eq_append_getElem hj, List.drop_append_of_le_length (by simp; omega)]
  have hg : xs[j]?.getD 0 = xs[j] := by simp [hj]
  rw [hd, ht, hg]
  simp only [go]

end Go.Proofs.Qxb6601353a.Plain
