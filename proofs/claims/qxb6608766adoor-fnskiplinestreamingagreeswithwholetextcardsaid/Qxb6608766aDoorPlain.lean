/-
  THE PLAIN MATHEMATICS of 'FnSkipLineStreamingAgreesWithWholeText': the first line feed of a list of bytes. Nothing of the program.
-/
import Derived.Lib.Bytealg
import Derived.Lib.Bytes
namespace Go.Proofs.Qxb6608766aDoor.Plain

/-- The first line feed's place, or -1. -/
def idx : List Int → Int
  | [] => -1
  | x :: l => if x = 10 then 0 else if idx l = -1 then -1 else idx l + 1

theorem idx_lo (l : List Int) : -1 ≤ idx l := by
  induction l with
  | nil => simp [idx]
  | cons x l ih => simp only [idx]; split; omega; split <;> omega

theorem idx_hi (l : List Int) : idx l < l.length := by
  induction l with
  | nil => simp [idx]
  | cons x l ih => simp only [idx, List.length_cons]; split; omega; split <;> omega

theorem idx_none (l : List Int) (h : idx l = -1) : ∀ x ∈ l, x ≠ 10 := by
  induction l with
  | nil => simp
  | cons x l ih =>
    simp only [idx] at h
    by_cases hx : x = 10
    · simp [hx] at h
    · simp only [if_neg hx] at h
      by_cases hi : idx l = -1
      · intro y hy
        rcases List.mem_cons.1 hy with rfl | hy
        · exact hx
        · exact ih hi y hy
      · simp only [if_neg hi] at h
        have := idx_lo l
        omega

theorem idx_some (l : List Int) (n : Nat) (h : idx l = n) : l = l.take n ++ 10 :: l.drop (n + 1) ∧ ∀ x ∈ l.take n, x ≠ 10 := by
  induction l generalizing n with
  | nil => simp [idx] at h
  | cons x l ih =>
    simp only [idx] at h
    by_cases hx : x = 10
    · simp [hx] at h
      have : n = 0 := by omega
      subst this
      simp [hx]
    · simp only [if_neg hx] at h
      by_cases hi : idx l = -1
      · simp only [if_pos hi] at h; omega
      · simp only [if_neg hi] at h
        have := idx_lo l
        obtain ⟨m, rfl⟩ : ∃ m, n = m + 1 := ⟨n - 1, by omega⟩
        obtain ⟨h1, h2⟩ := ih m (by omega)
        refine ⟨?_, ?_⟩
        · simp only [List.take_succ_cons, List.drop_succ_cons, List.cons_append]
          rw [← h1]
        · intro y hy
          rcases List.mem_cons.1 hy with rfl | hy
          · exact hx
          · exact h2 y hy

theorem idx_lib (xs : List Int) (h : ∀ n ∈ xs, 0 ≤ n ∧ n ≤ 255) : Lib.indexByte (Lib.bytesOf xs) 10 = idx xs := by
  induction xs with
  | nil => rfl
  | cons x xs ih =>
    have hx := h x (by simp)
    have := ih fun n hn => h n (by simp [hn])
    simp only [Lib.bytesOf, List.map_cons, Lib.indexByte, idx] at this ⊢
    rw [this]
    have e : (UInt8.ofNat x.toNat == 10) = decide (x = 10) := by
      rw [Bool.eq_iff_iff]
      simp only [beq_iff_eq, decide_eq_true_eq, ← UInt8.toNat_inj, UInt8.toNat_ofNat', UInt8.toNat_ofNat]
      omega
    rw [e]
    by_cases h1 : x = 10 <;> by_cases h2 : idx xs = -1 <;> simp [h1, h2]

end Go.Proofs.Qxb6608766aDoor.Plain
