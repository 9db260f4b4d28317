/-
  THE CONTRACT OF 'itoa64'.
-/
import Derived.Test.Qxb6608791aDoorSuf
import Derived.Deep.LoopGhost
namespace Go.Proofs.Qxb6608791aDoor.W
open Go.RowKit
open Go.Proofs.Qxb6608791aDoor.Plain
open Go.Lib (decDigits nDigits itoa)

/-- A byte as a cell. -/
def byteV (c : UInt8) : Value := .int .u8 (c.toNat : Int)

/-- The array's block. -/
def Arr (w : World) (B : Nat) (buf : List Value) : Prop := w.heap[B]? = some (.cells buf.toArray 39 (0, 0)) ∧ buf.length = 24

theorem Arr.cell {w : World} {B : Nat} {buf : List Value} (h : Arr w B buf) (j : Nat) : w.cell? ⟨B, j, none⟩ = buf[j]? := by
  rw [cell_of_row w B j _ 39 (0, 0) h.1]
  simp
theorem Arr.fz {w : World} {B : Nat} {buf : List Value} (h : Arr w B buf) (j : Nat) : w.frozen? ⟨B, j, none⟩ = false := frozen_of_row w B j _ 39 h.1
theorem Arr.set {w : World} {B : Nat} {buf : List Value} (h : Arr w B buf) (j : Nat) (v : Value) : Arr (w.setCell ⟨B, j, none⟩ v) B (buf.set j v) := by
  refine ⟨?_, by simpa using h.2⟩
  have := heap_setCell_same w B j _ 39 v h.1
  rw [this]
  simp

/-- The last digits stand at the array's end. -/
def Ends (buf : List Value) (i : Nat) (D : List UInt8) : Prop := buf.drop i = D.map byteV

theorem Ends.put {buf : List Value} {j : Nat} {D : List UInt8} (h : Ends buf (j + 1) D) (hj : j < buf.length) (c : UInt8) : Ends (buf.set j (byteV c)) j (c :: D) := by
  unfold Ends at *
  rw [List.drop_eq_getElem_cons (by simpa using hj)]
  simp only [List.getElem_set_self, List.map_cons, List.drop_set]
  rw [if_pos (by omega), h]

theorem dec_more (v : Nat) (h : ¬ v < 10) : decDigits v = decDigits (v / 10) ++ [UInt8.ofNat (48 + v % 10)] := by rw [decDigits, dif_neg h]
theorem dec_last (v : Nat) (h : v < 10) : decDigits v = [UInt8.ofNat (48 + v % 10)] := by rw [decDigits, dif_pos h, Nat.mod_eq_of_lt h]

theorem digV (v : Nat) : byteV (UInt8.ofNat (48 + v % 10)) = .int .u8 (48 + (v : Int) % 10) := by
  unfold byteV
  rw [digit_toNat (v % 10) (by omega)]
  congr 1

theorem wrap_neg (n : Nat) (h0 : 0 < n) (h : n ≤ 9223372036854775808) : IntKind.u64.wrap (-IntKind.u64.wrap (-(n : Int))) = n := by
  simp only [IntKind.wrap, IntKind.signed, IntKind.bits]
  simp
  omega

/-- The state of the digits' loop. -/
def Dig (w wr : World) (U v i : Nat) : Prop := ∃ (buf : List Value) (D : List UInt8), Arr wr w.heap.size buf ∧ Ends buf i D ∧ i + D.length = 24 ∧ decDigits U = decDigits v ++ D ∧ Below w.heap.size w wr

theorem Dig.room {w wr : World} {U v i : Nat} (h : Dig w wr U v i) (hU : U < 18446744073709551616) : 5 ≤ i ∧ i ≤ 24 := by
  obtain ⟨buf, D, _, _, h3, h4, _⟩ := h
  have h5 := congrArg List.length h4
  rw [Lib.decDigits_length, List.length_append, Lib.decDigits_length] at h5
  have := Lib.nDigits_le20 U hU
  have := Lib.nDigits_pos v
  omega

theorem dig_new (w : World) (U : Nat) : Dig w (w.alloc (.cells #[.int .u8 0, .int .u8 0, .int .u8 0, .int .u8 0, .int .u8 0, .int .u8 0, .int .u8 0, .int .u8 0, .int .u8 0, .int .u8 0, .int .u8 0, .int .u8 0, .int .u8 0, .int .u8 0, .int .u8 0, .int .u8 0, .int .u8 0, .int .u8 0, .int .u8 0, .int .u8 0, .int .u8 0, .int .u8 0, .int .u8 0, .int .u8 0] 39)) U U 24 := by
  refine ⟨[.int .u8 0, .int .u8 0, .int .u8 0, .int .u8 0, .int .u8 0, .int .u8 0, .int .u8 0, .int .u8 0, .int .u8 0, .int .u8 0, .int .u8 0, .int .u8 0, .int .u8 0, .int .u8 0, .int .u8 0, .int .u8 0, .int .u8 0, .int .u8 0, .int .u8 0, .int .u8 0, .int .u8 0, .int .u8 0, .int .u8 0, .int .u8 0], [], ⟨?_, rfl⟩, rfl, rfl, by simp, (Below.refl _ _).alloc (Nat.le_refl _) _⟩
  show (w.heap.push _)[w.heap.size]? = _
  simp

theorem arrLen : Tryd.prog.arrayLen 39 = 24 := by kernel_rfl
theorem arrElem : Tryd.prog.elem 39 = 5 := by kernel_rfl
theorem arrUnd : Tryd.prog.underlying 39 = some (.array (Tryd.prog.arrayLen 39) (Tryd.prog.elem 39)) := by kernel_rfl
theorem size5 (W : World) : Sem.run Tryd.prog (Go.sizeOf 5) W = .ok 1 W := by kernel_rfl

theorem slice_arr (W : World) (B j : Nat) (hj : j < 24) :
    Sem.run Tryd.prog (Instr.sliceAt 39 (.pointer (some ⟨B, 0, none⟩)) (some (.int .i64 (j : Int))) none none) W = .ok (.slice (some ⟨B, j, none⟩) (24 - j) (24 - j)) W := by
  rw [run_sliceAt_array_l W 39 ⟨B, 0, none⟩ arrUnd .i64 (j : Int) (by omega) (by rw [arrLen]; omega), arrElem, size5]
  simp only [Result.andThen, slicedAt, arrLen, Int.toNat_natCast, Nat.mul_one]
  rw [if_neg (by omega), Go.WideShapes.add_plain, Nat.zero_add]

/-- What the array's end reads as, as a string. -/
theorem conv_arr {W : World} {B j : Nat} {buf : List Value} {D : List UInt8} (hA : Arr W B buf) (hE : Ends buf j D) (hl : j + D.length = 24) :
    Sem.run Tryd.prog (convert 40 9 (.slice (some ⟨B, j, none⟩) (24 - j) (24 - j))) W = .ok (.string ⟨D.toArray⟩) W := by
  rw [show 24 - j = D.length by omega]
  refine run_convert_bytes_back W 40 9 5 ⟨B, j, none⟩ D.length D Tryd.underlying40 Tryd.underlying5 Tryd.underlying9 (fun k hk => ?_)
  rw [Go.WideShapes.add_plain, hA.cell]
  have : (buf.drop j)[k]? = (D.map byteV)[k]? := by rw [show buf.drop j = D.map byteV from hE]
  rw [List.getElem?_drop] at this
  rw [this]
  simp [byteV, hk]

set_option maxHeartbeats 1000000 in
set_option maxRecDepth 100000 in
theorem itoa_pos (n : Nat) (w : World) (h : n ≤ 9223372036854775807) :
    Calls Tryd.prog 8 #[.int .i64 (n : Int)] w fun e w' => e = .returned (.string ⟨(itoa n).toArray⟩) ∧ Below w.heap.size w w' := by
  have hd := dig_new w n
  have HD : Hid _ := hd
  clear hd
  generalize hRR : (⟨(itoa n).toArray⟩ : ByteArray) = R
  have HRR : Hid _ := hRR
  clear hRR
  go_enter Tryd.func8, Tryd.ntmps8
  go_wp2
  go_loopg [3, 6] (n + 1) (fun gk uv iv wr => ∃ (v i : Nat), uv = .int .u64 (v : Int) ∧ iv = .int .i64 (i : Int) ∧ Dig w wr n v i ∧ v ≤ n ∧ v < gk)
  case atStart => exact ⟨n, 24, rfl, rfl, HD.out, Nat.le_refl _, by omega⟩
  case round =>
    obtain ⟨v, i, rfl, rfl, hdig, hvn, hgk⟩ := hrel
    have hroom := hdig.room (by omega)
    obtain ⟨j, rfl⟩ : ∃ j, i = j + 1 := ⟨i - 1, by omega⟩
    obtain ⟨buf, D, hA, hE, hl, hdec, hbel⟩ := hdig
    have hcell : wr.cell? ⟨w.heap.size, j, none⟩ = some (buf[j]'(by rw [hA.2]; omega)) := by rw [hA.cell, List.getElem?_eq_getElem]
    generalize buf[j]'(by rw [hA.2]; omega) = old at hcell
    have hfz := hA.fz j
    have hj : j < 24 := by omega
    have HAll : Hid _ := And.intro hA (And.intro hE (And.intro hl (And.intro hdec hbel)))
    clear hA hE hl hdec hbel HD
    by_cases hv : v < 10
    · have hv0 : (v : Int) / 10 = 0 := by omega
      have hb : (((v : Int) / 10) == 0) = true := by simp; omega
      obtain ⟨hA, hE, hl, hdec, hbel⟩ := HAll.out
      have hA2 := hA.set j (byteV (UInt8.ofNat (48 + v % 10)))
      have hE2 := hE.put (by rw [hA.2]; omega) (UInt8.ofNat (48 + v % 10))
      have hcv := conv_arr hA2 hE2 (by simp; omega)
      rw [digV v] at hcv hA2
      have HR : Hid (UInt8.ofNat (48 + v % 10) :: D = itoa n) := by
        unfold Hid itoa
        rw [if_neg (by omega), Int.toNat_natCast, hdec, dec_last v hv]
        rfl
      have HB2 : Hid (Below w.heap.size w (wr.setCell ⟨w.heap.size, j, none⟩ (.int .u8 (48 + (v : Int) % 10)))) := hbel.setCell (Nat.le_refl _) _
      have hsl := fun W => slice_arr W w.heap.size j hj
      rw [HR.out, HRR.out] at hcv
      clear hA2 hE2 hA hE hl hdec hbel HAll HR
      go_wp2
      go_ret
      exact ⟨rfl, HB2.out⟩
    · have hv0 : ((v : Int) / 10 == 0) = false := by simp; omega
      go_wp2
      go_roundg v
      case measure => exact hgk
      case rel =>
        obtain ⟨hA, hE, hl, hdec, hbel⟩ := HAll.out
        refine ⟨v / 10, j, by go_num, rfl, ?_, by omega, by omega⟩
        rw [← digV v]
        exact ⟨_, _, hA.set j _, hE.put (by rw [hA.2]; omega) _, by simp; omega, by rw [hdec, dec_more v hv]; simp, hbel.setCell (Nat.le_refl _) _⟩

set_option maxHeartbeats 1000000 in
set_option maxRecDepth 100000 in
theorem itoa_neg (n : Nat) (w : World) (h0 : 0 < n) (h : n ≤ 9223372036854775808) :
    Calls Tryd.prog 8 #[.int .i64 (-(n : Int))] w fun e w' => e = .returned (.string ⟨(itoa (-(n : Int))).toArray⟩) ∧ Below w.heap.size w w' := by
  have hd := dig_new w n
  have HD : Hid _ := hd
  clear hd
  generalize hRR : (⟨(itoa (-(n : Int))).toArray⟩ : ByteArray) = R
  have HRR : Hid _ := hRR
  clear hRR
  have hneg : -(n : Int) < 0 := by omega
  have hwr := wrap_neg n h0 h
  go_enter Tryd.func8, Tryd.ntmps8
  go_wp2
  clear hwr
  go_loopg [3, 6] (n + 1) (fun gk uv iv wr => ∃ (v i : Nat), uv = .int .u64 (v : Int) ∧ iv = .int .i64 (i : Int) ∧ Dig w wr n v i ∧ v ≤ n ∧ v < gk)
  case atStart => exact ⟨n, 24, rfl, rfl, HD.out, Nat.le_refl _, by omega⟩
  case round =>
    obtain ⟨v, i, rfl, rfl, hdig, hvn, hgk⟩ := hrel
    have hroom := hdig.room (by omega)
    obtain ⟨j, rfl⟩ : ∃ j, i = j + 1 := ⟨i - 1, by omega⟩
    obtain ⟨buf, D, hA, hE, hl, hdec, hbel⟩ := hdig
    have hcell : wr.cell? ⟨w.heap.size, j, none⟩ = some (buf[j]'(by rw [hA.2]; omega)) := by rw [hA.cell, List.getElem?_eq_getElem]
    generalize buf[j]'(by rw [hA.2]; omega) = old at hcell
    have hfz := hA.fz j
    have hj : j < 24 := by omega
    have HAll : Hid _ := And.intro hA (And.intro hE (And.intro hl (And.intro hdec hbel)))
    clear hA hE hl hdec hbel HD
    by_cases hv : v < 10
    · have hv0 : (v : Int) / 10 = 0 := by omega
      have hb : (((v : Int) / 10) == 0) = true := by simp; omega
      obtain ⟨hA, hE, hl, hdec, hbel⟩ := HAll.out
      have hA2 := hA.set j (byteV (UInt8.ofNat (48 + v % 10)))
      have hE2 := hE.put (by rw [hA.2]; omega) (UInt8.ofNat (48 + v % 10))
      rw [digV v] at hA2 hE2
      have HB2 : Hid (Below w.heap.size w (wr.setCell ⟨w.heap.size, j, none⟩ (.int .u8 (48 + (v : Int) % 10)))) := hbel.setCell (Nat.le_refl _) _
      obtain ⟨j', rfl⟩ : ∃ j', j = j' + 1 := ⟨j - 1, by omega⟩
      have hA3 := hA2.set j' (byteV 45)
      have hE3 := hE2.put (by simp [hA.2]; omega) 45
      have hcv := conv_arr hA3 hE3 (by simp; omega)
      have HR : Hid (45 :: UInt8.ofNat (48 + v % 10) :: D = itoa (-(n : Int))) := by
        unfold Hid itoa
        rw [if_pos (by omega), show (-(n : Int)).natAbs = n by omega, hdec, dec_last v hv]
        rfl
      have hcell2 : (wr.setCell ⟨w.heap.size, j' + 1, none⟩ (.int .u8 (48 + (v : Int) % 10))).cell? ⟨w.heap.size, j', none⟩ = some ((buf.set (j' + 1) (.int .u8 (48 + (v : Int) % 10)))[j']'(by simp [hA.2]; omega)) := by
        rw [hA2.cell, List.getElem?_eq_getElem]
      generalize (buf.set (j' + 1) (.int .u8 (48 + (v : Int) % 10)))[j']'(by simp [hA.2]; omega) = old2 at hcell2
      have hfz2 := hA2.fz j'
      have HB3 : Hid _ := HB2.out.setCell (p := ⟨w.heap.size, j', none⟩) (Nat.le_refl _) (byteV 45)
      have hsl := fun W => slice_arr W w.heap.size j' (by omega)
      rw [HR.out, HRR.out] at hcv
      rw [show byteV 45 = .int .u8 45 from rfl] at hcv HB3
      clear hA2 hE2 hA3 hE3 hA hE hl hdec hbel HAll HR HB2
      go_wp2
      go_ret
      exact ⟨rfl, HB3.out⟩
    · have hv0 : ((v : Int) / 10 == 0) = false := by simp; omega
      go_wp2
      go_roundg v
      case measure => exact hgk
      case rel =>
        obtain ⟨hA, hE, hl, hdec, hbel⟩ := HAll.out
        refine ⟨v / 10, j, by go_num, rfl, ?_, by omega, by omega⟩
        rw [← digV v]
        exact ⟨_, _, hA.set j _, hE.put (by rw [hA.2]; omega) _, by simp; omega, by rw [hdec, dec_more v hv]; simp, hbel.setCell (Nat.le_refl _) _⟩

theorem itoa8 (n : Int) (w : World) (h0 : -9223372036854775808 ≤ n) (h1 : n ≤ 9223372036854775807) :
    Calls Tryd.prog 8 #[.int .i64 n] w fun e w' => e = .returned (.string ⟨(itoa n).toArray⟩) ∧ Below w.heap.size w w' := by
  rcases Int.lt_or_le n 0 with h | h
  · obtain ⟨k, rfl⟩ : ∃ k : Nat, n = -(k : Int) := ⟨n.natAbs, by omega⟩
    exact itoa_neg k w (by omega) (by omega)
  · obtain ⟨k, rfl⟩ : ∃ k : Nat, n = (k : Int) := ⟨n.toNat, by omega⟩
    exact itoa_pos k w (by omega)

end Go.Proofs.Qxb6608791aDoor.W
