/-
  THE PLAIN MATHEMATICS of the two laws on revision files: what cleaning leaves of 'repos', the repository's name, 'revisions' and a numeral; decimal numerals. Nothing of the program.
-/
import Derived.Lib.CleanSame
import Derived.Lib.JoinSame2
import Derived.Lib.ItoaNum
import Derived.Lib.ItoaLen
namespace Go.Proofs.Qxb6608791aDoor.Plain
open Go.Lib

def repos : List UInt8 := [114, 101, 112, 111, 115]
def revs : List UInt8 := [114, 101, 118, 105, 115, 105, 111, 110, 115]

theorem els_one (a : List UInt8) (h : 47 ∉ a) : Pa.els a = [a] := by
  induction a with
  | nil => rfl
  | cons c a ih =>
    have h1 : c ≠ 47 := fun e => h (by simp [e])
    simp only [Pa.els, if_neg h1, ih fun e => h (by simp [e])]

/-- What is kept behind the repository's name, the last first. -/
def stk (repo : List UInt8) : List (List UInt8) := (Pa.els repo).foldl (Pa.cleanStep false) [repos]

/-- What stands ahead of 'revisions'. -/
def pre (repo : List UInt8) : List UInt8 := if stk repo = [] then [] else ([47] : List UInt8).intercalate (stk repo).reverse ++ [47]

/-- The file of a revision. -/
def file (repo num : List UInt8) : List UInt8 := pre repo ++ (revs ++ 47 :: num)

theorem step_plain (st : List (List UInt8)) (e : List UInt8) (h0 : e ≠ []) (h1 : e ≠ [46]) (h2 : e ≠ [46, 46]) : Pa.cleanStep false st e = e :: st := by
  unfold Pa.cleanStep
  rw [if_neg (by simp [h0, h1]), if_neg h2]

theorem clean_file (l repo num : List UInt8) (hl : l = repos ++ 47 :: (repo ++ 47 :: (revs ++ 47 :: num)) ∨ (repo = [] ∧ l = repos ++ 47 :: (revs ++ 47 :: num))) (h47 : 47 ∉ num) (h0 : num ≠ []) (h1 : num ≠ [46]) (h2 : num ≠ [46, 46]) :
    Pa.clean l = file repo num := by
  have hels : (Pa.els l).foldl (Pa.cleanStep false) [] = num :: revs :: stk repo := by
    have e1 : Pa.els repos = [repos] := els_one _ (by decide)
    have e2 : Pa.els revs = [revs] := els_one _ (by decide)
    have s1 : Pa.cleanStep false [] repos = [repos] := step_plain [] _ (by decide) (by decide) (by decide)
    have s2 : ∀ st, Pa.cleanStep false st revs = revs :: st := fun st => step_plain st _ (by decide) (by decide) (by decide)
    have s3 : ∀ st, Pa.cleanStep false st num = num :: st := fun st => step_plain st _ h0 h1 h2
    rcases hl with rfl | ⟨rfl, rfl⟩
    · rw [Pa.els_app, Pa.els_app, Pa.els_app, e1, e2, els_one num h47]
      simp [List.foldl_append, s1, s2, s3, stk]
    · rw [Pa.els_app, Pa.els_app, e1, e2, els_one num h47]
      have s4 : stk [] = [repos] := by simp [stk, Pa.els, Pa.cleanStep]
      rw [s4]
      simp [s1, s2, s3]
  have hne : l ≠ [] := by rcases hl with rfl | ⟨_, rfl⟩ <;> simp [repos]
  have hro : (l.head? == some 47) = false := by rcases hl with rfl | ⟨_, rfl⟩ <;> simp [repos]
  rw [Pa.clean_eq_cleanEls, Pa.cleanEls_rel l hne hro, hels]
  have hb : ([47] : List UInt8).intercalate (num :: revs :: stk repo).reverse = file repo num := by
    rw [List.reverse_cons, Pa.inter_snoc num _ (by simp), List.reverse_cons]
    unfold file pre
    by_cases hs : stk repo = []
    · simp [hs, List.intercalate]
    · rw [if_neg hs, Pa.inter_snoc revs _ (by simpa using hs)]
      simp
  rw [hb, if_neg]
  unfold file
  simp [revs]

theorem join_file (repo num : List UInt8) (h47 : 47 ∉ num) (h0 : num ≠ []) (h1 : num ≠ [46]) (h2 : num ≠ [46, 46]) : Pa.join [repos, repo, revs, num] = file repo num := by
  unfold Pa.join
  by_cases hr : repo = []
  · subst hr
    have hf : ([repos, [], revs, num] : List (List UInt8)).filter (fun x => decide (x ≠ [])) = [repos, revs, num] := by simp [repos, revs, h0]
    rw [hf, if_neg (by simp)]
    exact clean_file _ [] num (.inr ⟨rfl, by simp [List.intercalate]⟩) h47 h0 h1 h2
  · have hf : ([repos, repo, revs, num] : List (List UInt8)).filter (fun x => decide (x ≠ [])) = [repos, repo, revs, num] := by simp [repos, revs, h0, hr]
    rw [hf, if_neg (by simp)]
    exact clean_file _ repo num (.inl (by simp [List.intercalate])) h47 h0 h1 h2

theorem pre_end (repo : List UInt8) : pre repo = [] ∨ ∃ t, pre repo = t ++ [47] := by
  unfold pre
  by_cases hs : stk repo = []
  · exact .inl (if_pos hs)
  · exact .inr ⟨_, if_neg hs⟩

/-- One plain path element. -/
def plainB (l : List UInt8) : Bool := !(l == []) && !(l == [46]) && !(l == [46, 46]) && !(l.contains 47)

theorem pre_plain (repo : List UInt8) (h : plainB repo = true) : pre repo = repos ++ 47 :: (repo ++ [47]) := by
  unfold plainB at h
  simp only [Bool.and_eq_true, Bool.not_eq_true', beq_eq_false_iff_ne, List.contains_eq_mem, decide_eq_false_iff_not] at h
  obtain ⟨⟨⟨h0, h1⟩, h2⟩, h47⟩ := h
  have hs : stk repo = [repo, repos] := by
    unfold stk
    rw [els_one repo h47]
    simp [step_plain _ repo h0 h1 h2]
  unfold pre
  rw [hs]
  simp [List.intercalate]

theorem split_last (p q x y : List UInt8) (hx : 47 ∉ x) (hy : 47 ∉ y) (h : p ++ 47 :: x = q ++ 47 :: y) : p = q ∧ x = y := by
  rcases List.append_eq_append_iff.1 h with ⟨a, h1, h2⟩ | ⟨a, h1, h2⟩
  · cases a with
    | nil => simp at h1 h2; exact ⟨h1.symm, h2⟩
    | cons c a => simp at h2; exact absurd (by rw [h2.2]; simp) hx
  · cases a with
    | nil => simp at h1 h2; exact ⟨h1, h2.symm⟩
    | cons c a => simp at h2; exact absurd (by rw [h2.2]; simp) hy

theorem file_inj (r1 r2 x y : List UInt8) (hx : 47 ∉ x) (hy : 47 ∉ y) (h : file r1 x = file r2 y) : pre r1 = pre r2 ∧ x = y := by
  unfold file at h
  rw [← List.append_assoc, ← List.append_assoc] at h
  obtain ⟨h1, h2⟩ := split_last _ _ x y hx hy h
  exact ⟨List.append_cancel_right h1, h2⟩

theorem pre_inj (r1 r2 : List UInt8) (h1 : plainB r1 = true) (h2 : plainB r2 = true) (h : pre r1 = pre r2) : r1 = r2 := by
  rw [pre_plain r1 h1, pre_plain r2 h2] at h
  have h3 := List.append_cancel_left h
  simp at h3
  exact h3

/-! ### Numerals -/

theorem digit_toNat (d : Nat) (h : d < 10) : (UInt8.ofNat (48 + d)).toNat = 48 + d := by
  simp; omega

theorem dec_digits (u : Nat) : ∀ c ∈ decDigits u, 48 ≤ c.toNat ∧ c.toNat ≤ 57 := by
  induction u using Nat.strongRecOn with
  | _ u ih =>
    rw [decDigits]
    intro c hc
    by_cases h : u < 10
    · rw [dif_pos h] at hc
      simp only [List.mem_singleton] at hc
      subst hc
      rw [digit_toNat u h]; omega
    · rw [dif_neg h] at hc
      rcases List.mem_append.1 hc with hc | hc
      · exact ih (u / 10) (by omega) c hc
      · simp only [List.mem_singleton] at hc
        subst hc
        rw [digit_toNat (u % 10) (by omega)]; omega

theorem dec_ne (u : Nat) : decDigits u ≠ [] := by
  rw [decDigits]
  split <;> simp

def val (l : List UInt8) : Nat := l.foldl (fun a c => 10 * a + (c.toNat - 48)) 0

theorem val_dec (u : Nat) : val (decDigits u) = u := by
  induction u using Nat.strongRecOn with
  | _ u ih =>
    rw [decDigits]
    by_cases h : u < 10
    · rw [dif_pos h]
      simp only [val, List.foldl_cons, List.foldl_nil, digit_toNat u h]
      omega
    · rw [dif_neg h]
      have := ih (u / 10) (by omega)
      unfold val at this ⊢
      rw [List.foldl_append, this]
      simp only [List.foldl_cons, List.foldl_nil, digit_toNat (u % 10) (by omega)]
      omega

theorem itoa_chars (n : Int) : ∀ c ∈ itoa n, c.toNat = 45 ∨ (48 ≤ c.toNat ∧ c.toNat ≤ 57) := by
  unfold itoa
  intro c hc
  split at hc
  · rcases List.mem_cons.1 hc with rfl | hc
    · exact .inl rfl
    · exact .inr (dec_digits _ c hc)
  · exact .inr (dec_digits _ c hc)

theorem itoa_ne (n : Int) : itoa n ≠ [] := by
  unfold itoa
  split
  · simp
  · exact dec_ne _

theorem itoa_no47 (n : Int) : (47 : UInt8) ∉ itoa n := fun h => by
  have := itoa_chars n 47 h
  simp at this

theorem itoa_no46 (n : Int) : (46 : UInt8) ∉ itoa n := fun h => by
  have := itoa_chars n 46 h
  simp at this

theorem itoa_inj (n m : Int) (h : itoa n = itoa m) : n = m := by
  unfold itoa at h
  by_cases hn : n < 0 <;> by_cases hm : m < 0
  · rw [if_pos hn, if_pos hm] at h
    have h1 : decDigits n.natAbs = decDigits m.natAbs := by simpa using h
    have := congrArg val h1
    rw [val_dec, val_dec] at this
    omega
  · rw [if_pos hn, if_neg hm] at h
    have := dec_digits m.toNat 45 (by rw [← h]; simp)
    simp at this
  · rw [if_neg hn, if_pos hm] at h
    have := dec_digits n.toNat 45 (by rw [h]; simp)
    simp at this
  · rw [if_neg hn, if_neg hm] at h
    have := congrArg val h
    rw [val_dec, val_dec] at this
    omega

theorem join_num (repo : List UInt8) (n : Int) : Pa.join [repos, repo, revs, itoa n] = file repo (itoa n) :=
  join_file repo (itoa n) (itoa_no47 n) (itoa_ne n) (fun h => itoa_no46 n (by rw [h]; simp)) (fun h => itoa_no46 n (by rw [h]; simp))

end Go.Proofs.Qxb6608791aDoor.Plain
