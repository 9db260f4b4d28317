/-
  THE CALLEES' CONTRACTS: strconv.FormatInt and path/filepath.Join off the shelf; 'ZZnewChecker', 'revisionFile', 'ZZcheckerRevisionFile'; 'hasSuffix', 'plainName'; the length tests.
-/
import Derived.Test.Qxb6608791aDoorRows
import Derived.Test.Qxb6608791aDoorPlain
import Derived.Test.Qxb6608791aDoorShelf
import Derived.WalkKit
import Derived.WalkSpells
import Derived.WalkLawsBesides
import Derived.Below
import Derived.Outline
import Derived.LoopTactic
import Derived.RegionTactic
import Derived.ChangeAlike
import Derived.WalkSmall
import Derived.Deep.QuietTactic
import Derived.BigQuiet
import Derived.BigRegion
import Derived.Deep.RegionWith
import Derived.Deep.RegionHeld3
import Derived.Lib.SmallJoins
import Derived.Lib.ItoaMem
namespace Go.Proofs.Qxb6608791aDoor.W
open Go.RowKit
open Go.Proofs.Qxb6608791aDoor.Plain

/-- The name of the table of powers of ten, off the row. -/
def tabName : String := Rows.fnRevisionFileEndsInItsNumberRow.named.headD ""
theorem tabG : ∃ g, Tryd.prog.globalNamed tabName = some g := Option.isSome_iff_exists.1 (by kernel_rfl)
/-- The table of powers of ten lies as its initialiser lays it. -/
def Tab (w : World) : Prop := Lib.TabIs Tryd.prog w tabName .u64 Lib.pow10Tab

theorem Tab.below {w w' : World} (h : Tab w) (hb : Below w.heap.size w w') : Tab w' := by
  obtain ⟨g, hg⟩ := tabG
  exact Joins.tab_stays hg h hb (Nat.le_refl _)

theorem format (n : Int) (h0 : -9223372036854775808 ≤ n) (h1 : n ≤ 9223372036854775807) (w : World) (ht : Tab w) :
    Calls Tryd.prog 14 #[.int .i64 n, .int .i64 10] w fun e w' => e = .returned (.string ⟨(Lib.itoa n).toArray⟩) ∧ Below w.heap.size w w' := by
  refine (Any.strconv_FormatInt_10 Tryd.laysM173 n h0 h1 w ht).mono ?_
  rintro e w' ⟨rfl, k, os, rfl⟩
  refine ⟨rfl, rfl, rfl, rfl, ?_, fun i hi => ?_⟩
  · show w.heap.size ≤ (w.heap ++ os).size
    simp
  · show (w.heap ++ os)[i]? = w.heap[i]?
    rw [Array.getElem?_append_left hi]

theorem newChecker (s : ByteArray) (w : World) :
    Calls Tryd.prog 6 #[.string s] w fun e w' => e = .returned (.pointer (some ⟨w.heap.size, 0, none⟩)) ∧ w'.cell? ⟨w.heap.size, 7, none⟩ = some (.string s) ∧ w.heap.size < w'.heap.size ∧ Below w.heap.size w w' := by
  go_enter Tryd.func6, Tryd.ntmps6
  go_wp2
  go_ret
  exact ⟨rfl, by simp, by simp, (Below.refl _ _).alloc (Nat.le_refl _) _⟩

def reposS : ByteArray := ⟨#[114, 101, 112, 111, 115]⟩
def revsS : ByteArray := ⟨#[114, 101, 118, 105, 115, 105, 111, 110, 115]⟩

theorem join_at (s : ByteArray) (n : Int) (W : World) (bk : Nat) (h0 : -9223372036854775808 ≤ n) (h1 : n ≤ 9223372036854775807) (hs : s.size ≤ 1048576)
    (hb : W.heap[bk]? = some (.cells #[.string reposS, .string s, .string revsS, .string ⟨(Lib.itoa n).toArray⟩] 9 (0, 0))) :
    Calls Tryd.prog 13 #[.slice (some ⟨bk, 0, none⟩) 4 4] W fun e w' => e = .returned (.string ⟨(file s.data.toList (Lib.itoa n)).toArray⟩) ∧ Below W.heap.size W w' := by
  have hlen := Lib.itoa_length_le n h0 h1
  have hsz : s.data.toList.length = s.size := by simp
  have hj : Lib.Pa.join ([reposS, s, revsS, (⟨(Lib.itoa n).toArray⟩ : ByteArray)].map (·.data.toList)) = file s.data.toList (Lib.itoa n) := by
    have := join_num s.data.toList n
    simpa [reposS, revsS, repos, revs] using this
  have := Any.filepath_Join_rules Tryd.laysPah38 bk 0 4 [reposS, s, revsS, ⟨(Lib.itoa n).toArray⟩] W (fun j x hx => ?_) (Array.getElem?_eq_some_iff.1 hb).1 (by simp) ?_
  · rw [hj] at this
    exact this
  · have hlt : j < 4 := by have := (List.getElem?_eq_some_iff.1 hx).1; simpa using this
    rw [Nat.zero_add]
    unfold World.cell?
    rw [hb]
    match j, hlt, hx with
    | 0, _, hx => simp at hx; subst hx; rfl
    | 1, _, hx => simp at hx; subst hx; rfl
    | 2, _, hx => simp at hx; subst hx; rfl
    | 3, _, hx => simp at hx; subst hx; rfl
  · simp [Lib.lens, reposS, revsS]
    omega

set_option maxHeartbeats 1000000 in
theorem revFile (cb : Nat) (s : ByteArray) (n : Int) (w : World) (h0 : -9223372036854775808 ≤ n) (h1 : n ≤ 9223372036854775807) (ht : Tab w) (hc : w.cell? ⟨cb, 7, none⟩ = some (.string s)) (hs : s.size ≤ 1048576) :
    Calls Tryd.prog 12 #[.pointer (some ⟨cb, 0, none⟩), .int .i64 n] w fun e w' => e = .returned (.string ⟨(file s.data.toList (Lib.itoa n)).toArray⟩) ∧ Below w.heap.size w w' := by
  have hcb : cb < w.heap.size := World.block_lt_of_cell? _ _ hc
  have HFm := format n h0 h1 w.drew ht
  have HJ := join_at s n
  generalize (⟨(file s.data.toList (Lib.itoa n)).toArray⟩ : ByteArray) = F at HJ ⊢
  generalize (⟨(Lib.itoa n).toArray⟩ : ByteArray) = I at HJ HFm
  have HJw : ∀ w5 : World, Calls Tryd.prog 13 #[.slice (some ⟨w5.heap.size, 0, none⟩) 4 4] (w5.alloc (.cells #[.string ⟨#[114, 101, 112, 111, 115]⟩, .string s, .string ⟨#[114, 101, 118, 105, 115, 105, 111, 110, 115]⟩, .string I] 9)) fun e w' =>
      e = .returned (.string F) ∧ Below w5.heap.size w5 w' := fun w5 => by
    refine (HJ (w5.alloc (.cells #[.string reposS, .string s, .string revsS, .string I] 9)) w5.heap.size h0 h1 hs (by show (w5.heap.push _)[w5.heap.size]? = _; simp)).mono ?_
    rintro e w' ⟨rfl, hb⟩
    exact ⟨rfl, ((Below.refl _ _).alloc (Nat.le_refl _) _).trans (hb.mono (by simp))⟩
  have HJ' : Hid _ := HJw
  clear HJ HJw ht
  go_enter Tryd.func12, Tryd.ntmps12
  go_wp2
  go_region_held3 (fun w' => w'.cell? ⟨cb, 7, none⟩ = some (.string s)) (first | assumption | go_keep) (first | (go_at_call 14; refine HFm.mono ?_; rintro e w5 ⟨rfl, hb5⟩; have q5 : w5.cell? ⟨cb, 7, none⟩ = some (.string s) := (hb5.cell (p := ⟨cb, 7, none⟩) hcb).trans hc) | (go_at_call 13; refine (HJ'.out w5).mono ?_; rintro e w6 ⟨rfl, hb6⟩; have q6 : w6.cell? ⟨cb, 7, none⟩ = some (.string s) := (hb6.cell (p := ⟨cb, 7, none⟩) (Nat.lt_of_lt_of_le hcb hb5.size)).trans q5))
  go_wp2
  go_ret
  exact ⟨rfl, (Below.refl w.heap.size w).drew.trans (hb5.trans (hb6.mono hb5.size))⟩

theorem zzRev (cb : Nat) (s : ByteArray) (n : Int) (w : World) (h0 : -9223372036854775808 ≤ n) (h1 : n ≤ 9223372036854775807) (ht : Tab w) (hc : w.cell? ⟨cb, 7, none⟩ = some (.string s)) (hs : s.size ≤ 1048576) :
    Calls Tryd.prog 7 #[.pointer (some ⟨cb, 0, none⟩), .int .i64 n] w fun e w' => e = .returned (.string ⟨(file s.data.toList (Lib.itoa n)).toArray⟩) ∧ Below w.heap.size w w' := by
  have HR := revFile cb s n w h0 h1 ht hc hs
  generalize (⟨(file s.data.toList (Lib.itoa n)).toArray⟩ : ByteArray) = F at HR ⊢
  go_enter Tryd.func7, Tryd.ntmps7
  go_wp2_with (go_at_call 12; refine HR.mono ?_; rintro e w' ⟨rfl, hb⟩)
  go_ret
  exact ⟨rfl, hb⟩

theorem bytes5_yes (s : ByteArray) (n m : Int) (w : World) (h : s.size ≤ 1048576) : Calls Tryd.prog 5 #[.string s, .int .i64 n, .int .i64 m] w fun e w' => e = .returned (.bool true) ∧ w' = w := by
  go_enter Tryd.func5, Tryd.ntmps5
  go_wp2
  go_ret
  exact ⟨rfl, rfl⟩

theorem bytes5_no (s : ByteArray) (n m : Int) (w : World) (h : 1048576 < s.size) : Calls Tryd.prog 5 #[.string s, .int .i64 n, .int .i64 m] w fun e w' => e = .returned (.bool false) ∧ w' = w := by
  go_enter Tryd.func5, Tryd.ntmps5
  go_wp2
  go_ret
  exact ⟨rfl, rfl⟩

theorem bytes11_yes (s t : ByteArray) (n m : Int) (w : World) (h : s.size + t.size ≤ 1048576) : Calls Tryd.prog 11 #[.string s, .string t, .int .i64 n, .int .i64 m] w fun e w' => e = .returned (.bool true) ∧ w' = w := by
  go_enter Tryd.func11, Tryd.ntmps11
  go_wp2
  go_ret
  exact ⟨rfl, rfl⟩

theorem bytes11_no (s t : ByteArray) (n m : Int) (w : World) (hs : s.size ≤ maxLen) (ht : t.size ≤ maxLen) (h : 1048576 < s.size + t.size) : Calls Tryd.prog 11 #[.string s, .string t, .int .i64 n, .int .i64 m] w fun e w' => e = .returned (.bool false) ∧ w' = w := by
  unfold maxLen at hs ht
  rcases Nat.lt_or_ge 1048576 s.size with h1 | h1
  · clear h
    go_enter Tryd.func11, Tryd.ntmps11
    go_wp2
    go_ret
    exact ⟨rfl, rfl⟩
  rcases Nat.lt_or_ge 1048576 t.size with h2 | h2
  · clear h
    go_enter Tryd.func11, Tryd.ntmps11
    go_wp2
    go_ret
    exact ⟨rfl, rfl⟩
  · have h3 : ¬ (s.size : Int) + (t.size : Int) ≤ 1048576 := by omega
    go_enter Tryd.func11, Tryd.ntmps11
    go_wp2
    go_ret
    exact ⟨rfl, rfl⟩

end Go.Proofs.Qxb6608791aDoor.W
