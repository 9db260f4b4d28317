/-
  MORE PLAIN MATHEMATICS: how long what stands ahead of 'revisions' can be; strings as lists.
-/
import Derived.Test.Qxb6608791aDoorPlain
namespace Go.Proofs.Qxb6608791aDoor.Plain
open Go.Lib

/-- The elements' bytes and a slash each. -/
def tot : List (List UInt8) → Nat
  | [] => 0
  | e :: r => e.length + 1 + tot r

theorem tot_app (a b : List (List UInt8)) : tot (a ++ b) = tot a + tot b := by
  induction a with
  | nil => simp [tot]
  | cons e a ih => simp only [List.cons_append, tot, ih]; omega

theorem tot_reverse (a : List (List UInt8)) : tot a.reverse = tot a := by
  induction a with
  | nil => rfl
  | cons e a ih => rw [List.reverse_cons, tot_app, ih]; simp only [tot]; omega

theorem tot_step (st : List (List UInt8)) (e : List UInt8) : tot (Pa.cleanStep false st e) ≤ tot st + (e.length + 1) := by
  unfold Pa.cleanStep
  split
  · omega
  · split
    · cases st with
      | nil => simp [tot]
      | cons x r =>
        simp only
        split
        · simp only [tot]; omega
        · simp only [tot]; omega
    · simp only [tot]; omega

theorem tot_fold (l : List (List UInt8)) : ∀ st, tot (l.foldl (Pa.cleanStep false) st) ≤ tot st + tot l := by
  induction l with
  | nil => intro st; simp [tot]
  | cons e l ih =>
    intro st
    have h1 := ih (Pa.cleanStep false st e)
    have h2 := tot_step st e
    simp only [List.foldl_cons, tot]
    omega

theorem tot_els (l : List UInt8) : tot (Pa.els l) = l.length + 1 := by
  induction l with
  | nil => rfl
  | cons c l ih =>
    simp only [Pa.els]
    split
    · simp only [tot, ih, List.length_cons, List.length_nil]; omega
    · obtain ⟨e, r, h⟩ := Pa.els_ne l
      rw [h] at ih ⊢
      simp only [tot, List.length_cons] at ih ⊢
      omega

theorem inter_len (st : List (List UInt8)) (h : st ≠ []) : (([47] : List UInt8).intercalate st).length + 1 = tot st := by
  have key : ∀ r : List (List UInt8), r ≠ [] → (([47] : List UInt8).intercalate r.reverse).length + 1 = tot r := by
    intro r
    induction r with
    | nil => intro h; exact absurd rfl h
    | cons x r ih =>
      intro _
      rw [List.reverse_cons]
      by_cases hr : r = []
      · subst hr; simp [List.intercalate, tot]
      · rw [Pa.inter_snoc x _ (by simpa using hr)]
        have := ih hr
        simp only [List.length_append, List.length_cons, tot]
        omega
  have := key st.reverse (by simpa using h)
  rwa [List.reverse_reverse, tot_reverse] at this

theorem pre_len (repo : List UInt8) : (pre repo).length ≤ repo.length + 7 := by
  unfold pre
  by_cases hs : stk repo = []
  · simp [hs]
  · rw [if_neg hs]
    have h1 := inter_len (stk repo).reverse (by simpa using hs)
    rw [tot_reverse] at h1
    have h2 := tot_fold (Pa.els repo) [repos]
    rw [tot_els] at h2
    simp only [tot, repos, List.length_cons, List.length_nil] at h2
    have h3 : tot (stk repo) ≤ repo.length + 7 := by unfold stk repos; omega
    simp only [List.length_append, List.length_cons, List.length_nil]
    omega

theorem str_ext (a b : ByteArray) (h : a.data.toList = b.data.toList) : a = b := by
  cases a; cases b
  simp only at h
  congr 1
  exact Array.ext' h

theorem str_cut (a : ByteArray) (p q : List UInt8) (h : a.data.toList = p ++ q) (k : Nat) (hk : k = p.length) : a.extract 0 k = ⟨p.toArray⟩ := by
  apply str_ext
  rw [ByteArray.data_extract, Array.toList_extract, List.extract_eq_take_drop, h, hk]
  simp

theorem str_size (a : ByteArray) (l : List UInt8) (h : a.data.toList = l) : a.size = l.length := by
  rw [← h]; simp

end Go.Proofs.Qxb6608791aDoor.Plain
