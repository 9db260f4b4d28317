/-
  THE STATE OF AN INPUT THAT STREAMS: the reader's block, the input's block, the buffer's row; what each step does to it, outside every walk.
-/
import Derived.Test.Qxb6608766aDoorRead
namespace Go.Proofs.Qxb6608766aDoor.W
open Go.RowKit
open Go.Proofs.Qxb6608766aDoor.Plain

/-- The input's block. -/
def InB (w : World) (ib : Nat) (rv bv : Value) (off : Int) (ev : Value) : Prop := w.heap[ib]? = some (.cells #[rv, bv, .int .i64 off, ev] 42 (0, 0))

section
variable {w : World} {ib : Nat} {rv bv : Value} {off : Int} {ev : Value}
theorem InB.lt (h : InB w ib rv bv off ev) : ib < w.heap.size := (Array.getElem?_eq_some_iff.1 h).1
theorem InB.c0 (h : InB w ib rv bv off ev) : w.cell? ⟨ib, 0, none⟩ = some rv := by unfold InB at h; simp [World.cell?, h]
theorem InB.c1 (h : InB w ib rv bv off ev) : w.cell? ⟨ib, 1, none⟩ = some bv := by unfold InB at h; simp [World.cell?, h]
theorem InB.c2 (h : InB w ib rv bv off ev) : w.cell? ⟨ib, 2, none⟩ = some (.int .i64 off) := by unfold InB at h; simp [World.cell?, h]
theorem InB.c3 (h : InB w ib rv bv off ev) : w.cell? ⟨ib, 3, none⟩ = some ev := by unfold InB at h; simp [World.cell?, h]
theorem InB.fz (h : InB w ib rv bv off ev) (o : Nat) : w.frozen? ⟨ib, o, none⟩ = false := frozen_of_row w ib o _ 42 h
theorem InB.s1 (h : InB w ib rv bv off ev) (u : Value) : InB (w.setCell ⟨ib, 1, none⟩ u) ib rv u off ev := by
  have := heap_setCell_same w ib 1 _ 42 u h
  exact this
theorem InB.s2 (h : InB w ib rv bv off ev) (u : Int) : InB (w.setCell ⟨ib, 2, none⟩ (.int .i64 u)) ib rv bv u ev := by
  have := heap_setCell_same w ib 2 _ 42 (.int .i64 u) h
  exact this
theorem InB.s3 (h : InB w ib rv bv off ev) (u : Value) : InB (w.setCell ⟨ib, 3, none⟩ u) ib rv bv off u := by
  have := heap_setCell_same w ib 3 _ 42 u h
  exact this
end

/-- The buffer: nil, or a row of the call's own whose first L cells are 'xs'. -/
def Buf (w : World) (ib : Nat) (a : Option Addr) (L C : Nat) (xs : List Value) : Prop :=
  xs.length = L ∧ L ≤ C ∧ C ≤ 9223372036854775807 ∧ ((a = none ∧ C = 0) ∨ ∃ g cur, a = some ⟨g, 0, none⟩ ∧ ib < g ∧ Row w g cur ∧ cur.length = C ∧ cur.take L = xs)

/-- What the buffer holds: the last L of the first i bytes. -/
def held (D : List Int) (i L : Nat) : List Value := ((D.take i).drop (i - L)).map (Value.int .u8)

theorem held_length (D : List Int) (i L : Nat) (h : L ≤ i) (hi : i ≤ D.length) : (held D i L).length = L := by
  unfold held; simp; omega

theorem held_drop (D : List Int) (i L off : Nat) (h : L ≤ i) (ho : off ≤ L) : (held D i L).drop off = held D i (L - off) := by
  unfold held
  rw [← List.map_drop, List.drop_drop, show i - L + off = i - (L - off) by omega]

theorem held_get (D : List Int) (i L j : Nat) (h : L ≤ i) (hi : i ≤ D.length) (hj : j < L) : (held D i L)[j]? = some (.int .u8 (D.getD (i - L + j) 0)) := by
  unfold held
  rw [List.getElem?_map, List.getElem?_drop, List.getElem?_take, if_pos (by omega), List.getElem?_eq_getElem (by omega)]
  simp [List.getD_eq_getElem?_getD, List.getElem?_eq_getElem (show i - L + j < D.length by omega)]

/-- The next n bytes. -/
def news (D : List Int) (i n : Nat) : List Value := ((D.drop i).take n).map (Value.int .u8)

theorem news_length (D : List Int) (i n : Nat) (h : i + n ≤ D.length) : (news D i n).length = n := by
  unfold news; simp; omega

theorem news_get (D : List Int) (i n j : Nat) (v : Value) (h : (news D i n)[j]? = some v) : v = .int .u8 (D.getD (i + j) 0) ∧ i + j < D.length := cells_cs D i n j v h

theorem held_news (D : List Int) (i L n : Nat) (h : L ≤ i) (hi : i + n ≤ D.length) : held D i L ++ news D i n = held D (i + n) (L + n) := by
  unfold held news
  rw [← List.map_append, show i + n - (L + n) = i - L by omega, List.take_add, List.drop_append_of_le_length (by simp; omega)]

theorem splice_take {α : Type} (cur cs : List α) (L : Nat) (h : L + cs.length ≤ cur.length) : (splice cur L cs).take (L + cs.length) = cur.take L ++ cs := by
  unfold splice
  rw [← List.append_assoc, List.take_append_of_le_length (by simp; omega), List.take_of_length_le (by simp; omega)]

theorem Buf.at {w : World} {ib i L C j : Nat} {a : Option Addr} {D : List Int} (h : Buf w ib a L C (held D i L)) (hL : L ≤ i) (hi : i ≤ D.length) (hj : j < L) :
    ∃ g, a = some ⟨g, 0, none⟩ ∧ w.cell? ⟨g, j, none⟩ = some (.int .u8 (D.getD (i - L + j) 0)) := by
  obtain ⟨_, b1, _, b3⟩ := h
  rcases b3 with ⟨_, hc⟩ | ⟨g, cur, e1, _, e3, _, e5⟩
  · omega
  · refine ⟨g, e1, ?_⟩
    rw [e3.cell, ← held_get D i L j hL hi hj, ← e5, List.getElem?_take, if_pos hj]

structure St (w : World) (rb ib : Nat) (sv : Value) (D : List Int) (i : Nat) (a : Option Addr) (L C off : Nat) (ev : Value) : Prop where
  rd : ∃ pr, RdB w rb sv i pr
  inp : InB w ib (.iface 43 (.pointer (some ⟨rb, 0, none⟩))) (.slice a L C) off ev
  buf : Buf w ib a L C (held D i L)
  hL : L ≤ i
  hi : i ≤ D.length
  ho : off ≤ L

/-- Nothing of the state lies in a block that has turned. -/
theorem St.keep {w w' : World} {rb ib : Nat} {sv : Value} {D : List Int} {i : Nat} {a : Option Addr} {L C off : Nat} {ev : Value} (h : St w rb ib sv D i a L C off ev) (hh : w'.heap = w.heap) : St w' rb ib sv D i a L C off ev := by
  obtain ⟨⟨pr, h1⟩, h2, ⟨b0, b1, b2, b3⟩, h4, h5, h6⟩ := h
  refine ⟨⟨pr, by unfold RdB at *; rw [hh]; exact h1⟩, by unfold InB at *; rw [hh]; exact h2, ⟨b0, b1, b2, ?_⟩, h4, h5, h6⟩
  rcases b3 with b3 | ⟨g, cur, e1, e2, e3, e4⟩
  · exact .inl b3
  · exact .inr ⟨g, cur, e1, e2, by unfold Row at *; rw [hh]; exact e3, e4⟩

/-- 'copy(in.buf, in.buf[in.off:])': what is ahead moves to the row's head. -/
theorem copy_down {W : World} {i L1 off C g : Nat} {D : List Int} {cur : List Value} (hrow : Row W g cur) (hC : cur.length = C) (hL : L1 + off ≤ i) (hi : i ≤ D.length) (hLC : L1 + off ≤ C)
    (hcur : cur.take (L1 + off) = held D i (L1 + off)) :
    ∃ (w1 : World) (cur1 : List Value), Sem.run Tryd.prog (Builtin.copy_ #[22, 22] 3 #[.slice (some ⟨g, 0, none⟩) (L1 + off) C, .slice (if C = off then some ⟨g, 0, none⟩ else some ⟨g, off, none⟩) L1 (C - off)]) W = .ok (.int .i64 (L1 : Int)) w1 ∧
      Row w1 g cur1 ∧ cur1.length = C ∧ cur1.take L1 = held D i L1 ∧ Below g W w1 := by
  obtain ⟨cs, hcs⟩ : ∃ cs, cs = held D i L1 := ⟨_, rfl⟩
  have hlen : cs.length = L1 := by rw [hcs]; exact held_length D i L1 (by omega) hi
  have hd : (held D i (L1 + off)).drop off = held D i L1 := by
    have := held_drop D i (L1 + off) off hL (by omega)
    rwa [show L1 + off - off = L1 by omega] at this
  obtain ⟨ad, hadE, hsrc⟩ : ∃ ad : Addr, (if C = off then some (⟨g, 0, none⟩ : Addr) else some ⟨g, off, none⟩) = some ad ∧ ∀ j v, cs[j]? = some v → W.cell? (ad.add j) = some v := by
    by_cases hCo : C = off
    · refine ⟨⟨g, 0, none⟩, if_pos hCo, fun j v hj => ?_⟩
      have : j < cs.length := (List.getElem?_eq_some_iff.1 hj).1
      omega
    · refine ⟨⟨g, off, none⟩, if_neg hCo, fun j v hj => ?_⟩
      have hjl : j < cs.length := (List.getElem?_eq_some_iff.1 hj).1
      rw [Go.WideShapes.add_plain, hrow.cell, ← hj, hcs, ← hd, List.getElem?_drop, ← hcur, List.getElem?_take, if_pos (by omega)]
  have hone : ∀ v ∈ cs, v.oneCell' = true := by
    intro v hv; rw [hcs] at hv; unfold held at hv; obtain ⟨a, _, rfl⟩ := List.mem_map.1 hv; rfl
  have hrun := run_copy_row (P := Tryd.prog) W 22 22 3 5 g 0 (L1 + off) C ad L1 (C - off) cur.toArray 5 cs Tryd.underlying22 (by kernel_rfl) hrow (by rw [hlen]; exact (Nat.min_eq_left (by omega)).symm) hsrc (by simp; omega) hone
  rw [← hadE] at hrun
  refine ⟨W.setRow g (splice cur 0 cs).toArray, splice cur 0 cs, hrun.trans ?_, ?_, ?_, ?_, ?_⟩
  · rw [hlen]; simp [splice, goInt, hlen]
  · exact setRow_heap W g _ _ 5 (0, 0) hrow
  · rw [length_splice _ _ _ (by omega)]; exact hC
  · have := splice_take cur cs 0 (by omega)
    rw [hlen, Nat.zero_add] at this
    rw [this, hcs]; simp
  · exact below_setRow (Below.refl _ _) (Nat.le_refl _) _

theorem St.down {W w1 : World} {rb ib i L1 off C g : Nat} {sv ev : Value} {D : List Int} {cur1 : List Value} (hst : St W rb ib sv D i (some ⟨g, 0, none⟩) (L1 + off) C off ev) (hrb : rb < ib) (hig : ib < g)
    (hrow1 : Row w1 g cur1) (hlen1 : cur1.length = C) (htake1 : cur1.take L1 = held D i L1) (hbel1 : Below g W w1) :
    St ((w1.setCell ⟨ib, 1, none⟩ (.slice (some ⟨g, 0, none⟩) L1 C)).setCell ⟨ib, 2, none⟩ (.int .i64 0)) rb ib sv D i (some ⟨g, 0, none⟩) L1 C 0 ev := by
  obtain ⟨⟨pr, h1⟩, h2, ⟨b0, b1, b2, b3⟩, h4, h5, h6⟩ := hst
  have hin : InB w1 ib (.iface 43 (.pointer (some ⟨rb, 0, none⟩))) (.slice (some ⟨g, 0, none⟩) (L1 + off) C) off ev := (hbel1.block ib hig).trans h2
  have hrd : RdB w1 rb sv i pr := (hbel1.block rb (by omega)).trans h1
  have hoth : ∀ k, k ≠ ib → ((w1.setCell ⟨ib, 1, none⟩ (.slice (some ⟨g, 0, none⟩) L1 C)).setCell ⟨ib, 2, none⟩ (.int .i64 0)).heap[k]? = w1.heap[k]? := fun k hk => by
    rw [Below.heap_setCell _ _ _ _ hk, Below.heap_setCell _ _ _ _ hk]
  refine ⟨⟨pr, (hoth rb (by omega)).trans hrd⟩, (hin.s1 _).s2 0, ⟨held_length D i L1 (by omega) h5, by omega, b2, .inr ⟨g, cur1, rfl, hig, (hoth g (by omega)).trans hrow1, hlen1, htake1⟩⟩, by omega, h5, Nat.zero_le _⟩

/-- 'slices.Grow' at a full buffer. -/
theorem grow_buf {W : World} {ib i L n : Nat} {a : Option Addr} {D : List Int} (hbuf : Buf W ib a L L (held D i L)) (hn : 0 < n) (hbig : L + n ≤ 4194304) (z : Int) (hz : z = (n : Int)) (m : Nat) :
    Calls Tryd.prog 35 #[.slice a L L, .int .i64 z] (W.drewN m) fun e w' => ∃ (G : Nat) (cur : List Value), L < G ∧ G ≤ 9223372036854775807 ∧ e = .returned (.slice (some ⟨W.heap.size, 0, none⟩) L G) ∧
      Row w' W.heap.size cur ∧ cur.length = G ∧ cur.take L = held D i L ∧ Below W.heap.size W w' := by
  subst hz
  obtain ⟨b0, b1, b2, b3⟩ := hbuf
  obtain ⟨cs, hcl, hcs, hnil, hbase, hcell⟩ : ∃ cs : List Value, cs.length = L ∧ cs = held D i L ∧ (a = none → L = 0) ∧ (∀ x, a = some x → ∃ g, x = ⟨g, 0, none⟩) ∧ ∀ x, a = some x → ∀ j v, cs[j]? = some v → (W.drewN m).cell? (x.add j) = some v := by
    rcases b3 with ⟨rfl, hc⟩ | ⟨g, cur, rfl, _, hrow, hl, ht⟩
    · exact ⟨held D i L, b0, rfl, fun _ => hc, (fun x h => by cases h), (fun x h => by cases h)⟩
    · refine ⟨cur, hl, by rw [← ht, List.take_of_length_le (by omega)], (fun h => by cases h), (fun x h => ⟨g, by cases h; rfl⟩), (fun x h j v hj => ?_)⟩
      cases h
      rw [Go.WideShapes.add_plain, Nat.zero_add, ← hj]
      exact hrow.cell j
  refine (grow_full a L n cs (W.drewN m) hn hbig hcl hnil hbase hcell).mono ?_
  rintro e w' ⟨G, rest, hG, hG63, hlen, rfl, hrow, hbel⟩
  refine ⟨G, cs ++ rest, by omega, hG63, rfl, hrow, hlen, ?_, (below_drewN (Below.refl _ _) m).trans hbel⟩
  rw [List.take_append_of_le_length (by omega), List.take_of_length_le (by omega), hcs]

theorem St.grown {W w1 : World} {rb ib i L C G : Nat} {a : Option Addr} {sv ev : Value} {D : List Int} {cur1 : List Value} (hst : St W rb ib sv D i a L C 0 ev) (hrb : rb < ib) (hG : L < G) (hG63 : G ≤ 9223372036854775807)
    (hrow1 : Row w1 W.heap.size cur1) (hlen1 : cur1.length = G) (htake1 : cur1.take L = held D i L) (hbel1 : Below W.heap.size W w1) :
    St (w1.setCell ⟨ib, 1, none⟩ (.slice (some ⟨W.heap.size, 0, none⟩) L G)) rb ib sv D i (some ⟨W.heap.size, 0, none⟩) L G 0 ev := by
  obtain ⟨⟨pr, h1⟩, h2, ⟨b0, b1, b2, b3⟩, h4, h5, h6⟩ := hst
  have hib := h2.lt
  have hin : InB w1 ib (.iface 43 (.pointer (some ⟨rb, 0, none⟩))) (.slice a L C) 0 ev := (hbel1.block ib hib).trans h2
  have hrd : RdB w1 rb sv i pr := (hbel1.block rb (by omega)).trans h1
  have hoth : ∀ k, k ≠ ib → (w1.setCell ⟨ib, 1, none⟩ (.slice (some ⟨W.heap.size, 0, none⟩) L G)).heap[k]? = w1.heap[k]? := fun k hk => by rw [Below.heap_setCell _ _ _ _ hk]
  refine ⟨⟨pr, (hoth rb (by omega)).trans hrd⟩, hin.s1 _, ⟨b0, by omega, hG63, .inr ⟨W.heap.size, cur1, rfl, hib, (hoth _ (by omega)).trans hrow1, hlen1, htake1⟩⟩, h4, h5, h6⟩

/-- What a read leaves of the input: its block as it was; the reader's and the row's blocks as told. -/
def After (W w' : World) (rb ib g : Nat) (sv : Value) (L C i : Nat) (cur : List Value) : Prop :=
  InB w' ib (.iface 43 (.pointer (some ⟨rb, 0, none⟩))) (.slice (some ⟨g, 0, none⟩) L C) 0 .nilIface ∧ (∃ pr, RdB w' rb sv i pr) ∧ Row w' g cur ∧ Below rb W w'

theorem read_eof_st {W : World} {rb ib g L C i N : Nat} {pr : Int} {sa : Option Addr} {sC : Nat} {cur : List Value} {u : TypeId} {x : Value} (hN : N ≤ 1048576) (hrb : rb < ib) (hR : RdB W rb (.slice sa N sC) i pr) (hiN : i = N)
    (hI : InB W ib (.iface 43 (.pointer (some ⟨rb, 0, none⟩))) (.slice (some ⟨g, 0, none⟩) L C) 0 .nilIface) (hrow : Row W g cur) (h0 : W.cell? ⟨0, 0, none⟩ = some (.iface u x)) (bv : Value) :
    Calls Tryd.prog 71 #[.pointer (some ⟨rb, 0, none⟩), bv] W.drew fun e w' => e = .returned (.tuple #[.int .i64 0, .iface u x]) ∧ After W w' rb ib g (.slice sa N sC) L C i cur := by
  subst hiN
  refine (read_eof rb sa i sC pr bv u x W.drew hN hR h0).mono ?_
  rintro e w' ⟨rfl, hh, hb⟩
  have hlt := hI.lt
  refine ⟨rfl, ?_, ⟨pr, ?_⟩, ?_, ?_⟩
  · unfold InB at *; rw [hh]; exact hI
  · unfold RdB at *; rw [hh]; exact hR
  · unfold Row at *; rw [hh]; exact hrow
  · exact ((Below.refl rb W).drew).trans (hb.mono (by show rb ≤ W.heap.size; omega))

theorem read_some_st {W : World} {rb ib sb g L C i n : Nat} {D : List Int} {pr : Int} {cur : List Value} (hN : D.length ≤ 1048576) (hsb : sb < rb) (hrb : rb < ib) (hig : ib < g) (hi : i < D.length) (hR : RdB W rb (.slice (some ⟨sb, 0, none⟩) D.length D.length) i pr)
    (hI : InB W ib (.iface 43 (.pointer (some ⟨rb, 0, none⟩))) (.slice (some ⟨g, 0, none⟩) L C) 0 .nilIface) (hrow : Row W g cur) (hS : ∀ j, j < D.length → W.cell? ⟨sb, j, none⟩ = some (.int .u8 (D.getD j 0)))
    (hC : cur.length = C) (hLC : L < C) (hC63 : C ≤ 9223372036854775807) (hn : n = Nat.min (D.length - i) (C - L)) :
    Calls Tryd.prog 71 #[.pointer (some ⟨rb, 0, none⟩), .slice (some ⟨g, L, none⟩) (C - L) (C - L)] W.drew fun e w' => e = .returned (.tuple #[.int .i64 (n : Int), .nilIface]) ∧ After W w' rb ib g (.slice (some ⟨sb, 0, none⟩) D.length D.length) L C (i + n) (splice cur L (news D i n)) := by
  have hnN : n ≤ D.length - i := by rw [hn]; exact Nat.min_le_left _ _
  have hone : ∀ v ∈ news D i n, v.oneCell' = true := by
    intro v hv; unfold news at hv; obtain ⟨a, _, rfl⟩ := List.mem_map.1 hv; rfl
  refine (read_some rb sb g D.length i L (C - L) n pr cur (news D i n) W.drew hN hi hR (fun j v hj => ?_) hone (news_length D i n (by omega)) hn hrow (by omega) (by omega) hsb (by omega)).mono ?_
  · obtain ⟨rfl, hl⟩ := news_get D i n j v hj
    exact hS _ hl
  rintro e w' ⟨rfl, hR', hrow', hb, hk⟩
  exact ⟨rfl, (hk ib hrb hig).trans hI, ⟨-1, hR'⟩, hrow', ((Below.refl rb W).drew).trans hb⟩

theorem St.read {W w' : World} {rb ib g L C i n : Nat} {sv ev : Value} {D : List Int} {cur : List Value} (ha : After W w' rb ib g sv L C (i + n) cur) (hrb : rb < ib) (hig : ib < g) (hL : L ≤ i) (hn : i + n ≤ D.length)
    (hC : cur.length = C) (hLC : L + n ≤ C) (hC63 : C ≤ 9223372036854775807) (ht : cur.take (L + n) = held D (i + n) (L + n)) (hone : World → World) (hh : ∀ v, (hone v).heap = v.heap) :
    St (hone ((w'.setCell ⟨ib, 1, none⟩ (.slice (some ⟨g, 0, none⟩) (L + n) C)).setCell ⟨ib, 3, none⟩ ev)) rb ib sv D (i + n) (some ⟨g, 0, none⟩) (L + n) C 0 ev := by
  obtain ⟨hin, ⟨pr, hrd⟩, hrow, _⟩ := ha
  have hoth : ∀ k, k ≠ ib → ((w'.setCell ⟨ib, 1, none⟩ (.slice (some ⟨g, 0, none⟩) (L + n) C)).setCell ⟨ib, 3, none⟩ ev).heap[k]? = w'.heap[k]? := fun k hk => by
    rw [Below.heap_setCell _ _ _ _ hk, Below.heap_setCell _ _ _ _ hk]
  refine St.keep (w := (w'.setCell ⟨ib, 1, none⟩ (.slice (some ⟨g, 0, none⟩) (L + n) C)).setCell ⟨ib, 3, none⟩ ev) ?_ (hh _)
  refine ⟨⟨pr, (hoth rb (by omega)).trans hrd⟩, (hin.s1 _).s3 _, ⟨held_length D _ _ (by omega) hn, hLC, hC63, .inr ⟨g, cur, rfl, hig, (hoth g (by omega)).trans hrow, hC, ht⟩⟩, by omega, hn, Nat.zero_le _⟩

theorem read_take {D : List Int} {i L C n : Nat} {cur : List Value} (hL : L ≤ i) (hn : i + n ≤ D.length) (hC : cur.length = C) (hLC : L + n ≤ C) (ht : cur.take L = held D i L) :
    (splice cur L (news D i n)).take (L + n) = held D (i + n) (L + n) ∧ (splice cur L (news D i n)).length = C := by
  have hl := news_length D i n hn
  have h1 := splice_take cur (news D i n) L (by omega)
  rw [hl] at h1
  exact ⟨by rw [h1, ht, held_news D i L n hL hn], by rw [length_splice _ _ _ (by omega)]; exact hC⟩

end Go.Proofs.Qxb6608766aDoor.W
