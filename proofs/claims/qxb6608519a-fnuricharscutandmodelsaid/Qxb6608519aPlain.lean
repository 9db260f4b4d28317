/-
  THE PLAIN MATHEMATICS of 'FnURICharsCutAndModel': the scan, over lists of integers. Nothing of the program.
-/
import Derived.Lib.Bytealg
import Derived.Lib.Bytes
namespace Go.Proofs.Qxb6608519a.Plain

/-- The bytes of a string, as integers. -/
def bs (s : ByteArray) : List Int := s.data.toList.map fun c => (c.toNat : Int)

theorem bs_length (s : ByteArray) : (bs s).length = s.size := by simp [bs]

theorem bs_get (s : ByteArray) (k : Nat) (h : k < s.size) : (bs s)[k]? = some ((s[k].toNat : Nat) : Int) := by
  have h' : k < s.data.size := h
  simp only [bs, List.getElem?_map, Array.getElem?_toList, Array.getElem?_eq_getElem h', Option.map_some]
  rfl

theorem bs_byte (s : ByteArray) : ∀ x ∈ bs s, 0 ≤ x ∧ x ≤ 255 := by
  intro x hx
  obtain ⟨c, _, rfl⟩ := List.mem_map.1 hx
  have := c.toNat_lt
  omega

theorem bs_extract (s : ByteArray) (a b : Nat) : bs (s.extract a b) = ((bs s).take b).drop a := by
  simp only [bs, ByteArray.data_extract, Array.toList_extract, List.extract_eq_take_drop, List.map_take, List.map_drop]
  rw [List.drop_take]

/-- The first place of v, or -1. -/
def ix (v : Int) : List Int → Int
  | [] => -1
  | x :: l => if x = v then 0 else if ix v l = -1 then -1 else ix v l + 1

theorem ix_lo (v : Int) (l : List Int) : -1 ≤ ix v l := by
  induction l with
  | nil => simp [ix]
  | cons x l ih => simp only [ix]; split; omega; split <;> omega

theorem ix_hi (v : Int) (l : List Int) : ix v l < l.length := by
  induction l with
  | nil => simp [ix]
  | cons x l ih => simp only [ix, List.length_cons]; split; omega; split <;> omega

theorem ix_none (v : Int) (l : List Int) (h : ix v l = -1) : ∀ x ∈ l, x ≠ v := by
  induction l with
  | nil => simp
  | cons x l ih =>
    simp only [ix] at h
    by_cases hx : x = v
    · simp [hx] at h
    · simp only [if_neg hx] at h
      by_cases hi : ix v l = -1
      · intro y hy
        rcases List.mem_cons.1 hy with rfl | hy
        · exact hx
        · exact ih hi y hy
      · simp only [if_neg hi] at h
        have := ix_lo v l
        omega

theorem ix_some (v : Int) (l : List Int) (n : Nat) (h : ix v l = n) : l = l.take n ++ v :: l.drop (n + 1) ∧ ∀ x ∈ l.take n, x ≠ v := by
  induction l generalizing n with
  | nil => simp [ix] at h
  | cons x l ih =>
    simp only [ix] at h
    by_cases hx : x = v
    · simp [hx] at h
      have : n = 0 := by omega
      subst this
      simp [hx]
    · simp only [if_neg hx] at h
      by_cases hi : ix v l = -1
      · simp only [if_pos hi] at h; omega
      · simp only [if_neg hi] at h
        have := ix_lo v l
        obtain ⟨m, rfl⟩ : ∃ m, n = m + 1 := ⟨n - 1, by omega⟩
        obtain ⟨h1, h2⟩ := ih m (by omega)
        refine ⟨?_, ?_⟩
        · simp only [List.take_succ_cons, List.drop_succ_cons, List.cons_append]
          rw [← h1]
        · intro y hy
          rcases List.mem_cons.1 hy with rfl | hy
          · exact hx
          · exact h2 y hy

/-- The place that a walk from the left stops at. -/
theorem ix_of (v : Int) (l : List Int) (n : Nat) (h1 : ∀ x ∈ l.take n, x ≠ v) (h2 : l[n]? = some v) : ix v l = n := by
  induction l generalizing n with
  | nil => simp at h2
  | cons x l ih =>
    cases n with
    | zero => simp at h2; simp [ix, h2]
    | succ n =>
      have hx : x ≠ v := h1 x (by simp)
      have := ih n (fun y hy => h1 y (by simp [hy])) (by simpa using h2)
      simp only [ix, if_neg hx, this]
      rw [if_neg (by omega)]; omega

theorem ix_not (v : Int) (l : List Int) (h : ∀ x ∈ l, x ≠ v) : ix v l = -1 := by
  induction l with
  | nil => rfl
  | cons x l ih =>
    simp only [ix, if_neg (h x (by simp)), ih fun y hy => h y (by simp [hy])]
    rfl

theorem ix_lib (v : Int) (s : ByteArray) (h0 : 0 ≤ v) (h1 : v ≤ 255) : Lib.indexByte s.data.toList v.toNat.toUInt8 = ix v (bs s) := by
  unfold bs
  induction s.data.toList with
  | nil => rfl
  | cons c l ih =>
    simp only [List.map_cons, Lib.indexByte, ix]
    rw [ih]
    have e : (c == v.toNat.toUInt8) = decide ((c.toNat : Int) = v) := by
      rw [Bool.eq_iff_iff]
      have hc := c.toNat_lt
      simp only [beq_iff_eq, decide_eq_true_eq, ← UInt8.toNat_inj, Nat.toUInt8, UInt8.toNat_ofNat']
      omega
    rw [e]
    by_cases hx : (c.toNat : Int) = v <;> by_cases h2 : ix v (l.map fun c => (c.toNat : Int)) = -1 <;> simp [hx, h2]

def letB (x : Int) : Bool := decide (97 ≤ x ∧ x ≤ 122) || decide (65 ≤ x ∧ x ≤ 90)
def digB (x : Int) : Bool := decide (48 ≤ x ∧ x ≤ 57)
def hexB (x : Int) : Bool := digB x || decide (97 ≤ x ∧ x ≤ 102) || decide (65 ≤ x ∧ x ≤ 70)
def okB (o : List Int) (x : Int) : Bool := letB x || digB x || decide (0 ≤ ix x o)

/-- The scan: letters, digits, bytes of 'o', and '%' with two hexadecimal digits. -/
def scan (o : List Int) : List Int → Bool
  | [] => true
  | [c] => if c = 37 then false else okB o c
  | [c, d] => if c = 37 then false else okB o c && scan o [d]
  | c :: a :: b :: r => if c = 37 then hexB a && hexB b && scan o r else okB o c && scan o (a :: b :: r)

theorem scan_ok (o : List Int) (c : Int) (l : List Int) (h : c ≠ 37) : scan o (c :: l) = (okB o c && scan o l) := by
  match l with
  | [] => simp [scan, h]
  | [d] => simp [scan, h]
  | a :: b :: r => rw [scan, if_neg h]

theorem scan_pct (o : List Int) (a b : Int) (r : List Int) : scan o (37 :: a :: b :: r) = (hexB a && hexB b && scan o r) := by
  rw [scan, if_pos rfl]

theorem scan_short (o : List Int) (l : List Int) (h : l.length < 2) : scan o (37 :: l) = false := by
  match l, h with
  | [], _ => rfl
  | [d], _ => rfl

theorem scan_app (o : List Int) (a b : List Int) (h : ∀ x ∈ a, x ≠ 37) : scan o (a ++ b) = (a.all (okB o) && scan o b) := by
  induction a with
  | nil => simp
  | cons c a ih =>
    rw [List.cons_append, scan_ok o c _ (h c (by simp)), ih fun y hy => h y (by simp [hy])]
    simp [Bool.and_assoc]

theorem scan_none (o : List Int) (a : List Int) (h : ∀ x ∈ a, x ≠ 37) : scan o a = a.all (okB o) := by
  have := scan_app o a [] h
  simpa [scan] using this

/-- AT EVERY CUT THAT SPLITS NO ESCAPE the scan is the conjunction of the two parts. -/
theorem scan_cut (o b : List Int) : ∀ (n : Nat) (a : List Int), a.length ≤ n → (∀ i, i < a.length → a.length ≤ i + 2 → a[i]? ≠ some 37) → scan o (a ++ b) = (scan o a && scan o b) := by
  intro n
  induction n with
  | zero =>
    intro a ha _
    obtain rfl : a = [] := List.length_eq_zero_iff.1 (by omega)
    simp [scan]
  | succ n ih =>
    intro a ha hc
    match a, ha, hc with
    | [], _, _ => simp [scan]
    | c :: l, ha, hc =>
      simp only [List.length_cons] at ha hc
      by_cases h : c = 37
      · subst h
        have hl : 2 ≤ l.length := by
          rcases Nat.lt_or_ge l.length 2 with hl | hl
          · exact absurd rfl (hc 0 (by omega) (by omega))
          · exact hl
        match l, hl, ha, hc with
        | p :: q :: r, _, ha, hc =>
          simp only [List.length_cons] at ha hc
          rw [List.cons_append, List.cons_append, List.cons_append, scan_pct, scan_pct, ih r (by omega)]
          · simp [Bool.and_assoc]
          · intro i hi1 hi2
            have := hc (i + 3) (by omega) (by omega)
            simpa using this
      · rw [List.cons_append, scan_ok o c _ h, scan_ok o c _ h, ih l (by omega)]
        · simp [Bool.and_assoc]
        · intro i hi1 hi2
          have := hc (i + 1) (by omega) (by omega)
          simpa using this

/-- One turn of 'uriChars': the first '%'. -/
theorem scan_at (o l : List Int) (n : Nat) (h : ix 37 l = n) :
    scan o l = ((l.take n).all (okB o) && (decide (n + 2 < l.length) && (hexB (l[n + 1]?.getD 0) && (hexB (l[n + 2]?.getD 0) && scan o (l.drop (n + 3)))))) := by
  obtain ⟨h1, h2⟩ := ix_some 37 l n h
  have hlen : n < l.length := by have := ix_hi 37 l; omega
  have e1 : scan o l = ((l.take n).all (okB o) && scan o (37 :: l.drop (n + 1))) := by
    have := scan_app o (l.take n) (37 :: l.drop (n + 1)) h2
    rwa [← h1] at this
  rw [e1]
  congr 1
  by_cases hn : n + 2 < l.length
  · have d1 : l.drop (n + 1) = l[n + 1] :: l[n + 2] :: l.drop (n + 3) := by
      rw [List.drop_eq_getElem_cons (by omega), List.drop_eq_getElem_cons (by omega)]
    rw [d1, scan_pct]
    simp [hn, show n + 1 < l.length by omega, Bool.and_assoc]
  · rw [scan_short o _ (by simp; omega)]
    simp [hn]

/-- One turn of 'zzPctText' at a byte that is no '%'. -/
theorem scan_step (o l : List Int) (k : Nat) (c : Int) (hk : l[k]? = some c) (h : c ≠ 37) : scan o (l.drop k) = (okB o c && scan o (l.drop (k + 1))) := by
  obtain ⟨hlt, rfl⟩ := List.getElem?_eq_some_iff.1 hk
  rw [List.drop_eq_getElem_cons hlt, scan_ok o _ _ h]

theorem scan_esc (o l : List Int) (k : Nat) (a b : Int) (hk : l[k]? = some 37) (h1 : l[k + 1]? = some a) (h2 : l[k + 2]? = some b) : scan o (l.drop k) = (hexB a && hexB b && scan o (l.drop (k + 3))) := by
  obtain ⟨hlt, e⟩ := List.getElem?_eq_some_iff.1 hk
  obtain ⟨hlt1, rfl⟩ := List.getElem?_eq_some_iff.1 h1
  obtain ⟨hlt2, rfl⟩ := List.getElem?_eq_some_iff.1 h2
  rw [List.drop_eq_getElem_cons hlt, e, List.drop_eq_getElem_cons hlt1, List.drop_eq_getElem_cons hlt2, scan_pct]

theorem scan_end (o l : List Int) (k : Nat) (hk : l[k]? = some 37) (h : l.length < k + 3) : scan o (l.drop k) = false := by
  obtain ⟨hlt, e⟩ := List.getElem?_eq_some_iff.1 hk
  rw [List.drop_eq_getElem_cons hlt, e, scan_short o _ (by simp; omega)]

/-- 'isHexDigit' by its string of digits. -/
theorem hex_ix : ∀ n : Fin 256, decide (0 ≤ ix (n.val : Int) [48, 49, 50, 51, 52, 53, 54, 55, 56, 57, 97, 98, 99, 100, 101, 102, 65, 66, 67, 68, 69, 70]) = hexB (n.val : Int) := by
  decide +kernel

theorem all_take (o l : List Int) (k : Nat) (c : Int) (hk : l[k]? = some c) : (l.take (k + 1)).all (okB o) = ((l.take k).all (okB o) && okB o c) := by
  obtain ⟨hlt, rfl⟩ := List.getElem?_eq_some_iff.1 hk
  rw [List.take_succ_eq_append_getElem hlt, List.all_append]
  simp

end Go.Proofs.Qxb6608519a.Plain
