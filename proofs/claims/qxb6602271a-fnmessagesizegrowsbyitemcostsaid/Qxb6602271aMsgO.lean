import Derived.Test.Qxb6602271aMsgA
import Derived.Test.Qxb6602271aOpen
import Derived.Lib.SmallJoins
namespace Go.Proofs.Qxb6602271a
open Go.ChangeShapes Go.WideShapes Go.ChangeAt Go.RowKit Go.Joins

theorem arr10 {cs : Array Value} (h : cs.size = 10) : ∃ c0 c1 c2 c3 c4 c5 c6 c7 c8 c9, cs = #[c0, c1, c2, c3, c4, c5, c6, c7, c8, c9] := by
  obtain ⟨l⟩ := cs
  match l, h with
  | [c0, c1, c2, c3, c4, c5, c6, c7, c8, c9], _ => exact ⟨c0, c1, c2, c3, c4, c5, c6, c7, c8, c9, rfl⟩
theorem arr6 {cs : Array Value} (h : cs.size = 6) : ∃ c0 c1 c2 c3 c4 c5, cs = #[c0, c1, c2, c3, c4, c5] := by
  obtain ⟨l⟩ := cs
  match l, h with
  | [c0, c1, c2, c3, c4, c5], _ => exact ⟨c0, c1, c2, c3, c4, c5, rfl⟩
theorem arr3 {cs : Array Value} (h : cs.size = 3) : ∃ c0 c1 c2, cs = #[c0, c1, c2] := by
  obtain ⟨l⟩ := cs
  match l, h with
  | [c0, c1, c2], _ => exact ⟨c0, c1, c2, rfl⟩
theorem arr2 {cs : Array Value} (h : cs.size = 2) : ∃ c0 c1, cs = #[c0, c1] := by
  obtain ⟨l⟩ := cs
  match l, h with
  | [c0, c1], _ => exact ⟨c0, c1, rfl⟩

section
variable {H : Type} {enc : TypeId × Value → H} {W : World} {base : Nat} {spare : Nat → Bool} {held : Bool}

theorem openDest {fuel : Nat} {cs : List Value} {x : DataW H × List MemPlace} (h : DataW.trod enc Try.prog W base spare held fuel 68 cs = some x) : ∃ y : DestV, cs = y.cells ∧ byteRow W y.ca y.cl ∧ y.cl ≤ maxLen := by
  obtain ⟨y0, y1, n, _, hlen, h0, h1⟩ := trod_struct2 Try.underlying68 h
  have c68 : Try.prog.cellsOf 68 = 2 := by kernel_rfl
  have c5 : Try.prog.cellsOf 5 = 1 := by kernel_rfl
  have c29 : Try.prog.cellsOf 29 = 1 := by kernel_rfl
  rw [c68] at hlen
  obtain ⟨k0, k1, rfl⟩ := list2 hlen
  simp only [c5, c29, List.drop_zero, List.drop_succ_cons, List.take_succ_cons, List.take_zero] at h0 h1
  obtain ⟨z0, e0, _, _⟩ := DataW.trod_int Try.underlying5 h0
  obtain ⟨a, l, c, e1, hb, hl⟩ := openBytes h1
  simp only [List.cons.injEq, and_true] at e0 e1
  subst e0 e1
  exact ⟨⟨z0, a, l, c⟩, rfl, hb, hl⟩

theorem openCert {fuel : Nat} {cs : List Value} {x : DataW H × List MemPlace} (h : DataW.trod enc Try.prog W base spare held fuel 101 cs = some x) : ∃ y : DestV, cs = y.cells ∧ byteRow W y.ca y.cl ∧ y.cl ≤ maxLen := by
  obtain ⟨y0, y1, n, _, hlen, h0, h1⟩ := trod_struct2 Try.underlying101 h
  have c101 : Try.prog.cellsOf 101 = 2 := by kernel_rfl
  have c5 : Try.prog.cellsOf 5 = 1 := by kernel_rfl
  have c29 : Try.prog.cellsOf 29 = 1 := by kernel_rfl
  rw [c101] at hlen
  obtain ⟨k0, k1, rfl⟩ := list2 hlen
  simp only [c5, c29, List.drop_zero, List.drop_succ_cons, List.take_succ_cons, List.take_zero] at h0 h1
  obtain ⟨z0, e0, _, _⟩ := DataW.trod_int Try.underlying5 h0
  obtain ⟨a, l, c, e1, hb, hl⟩ := openBytes h1
  simp only [List.cons.injEq, and_true] at e0 e1
  subst e0 e1
  exact ⟨⟨z0, a, l, c⟩, rfl, hb, hl⟩

theorem openOpt {fuel : Nat} {cs : List Value} {x : DataW H × List MemPlace} (h : DataW.trod enc Try.prog W base spare held fuel 99 cs = some x) : ∃ y : OptV, cs = y.cells ∧ byteRow W y.ca y.cl ∧ y.cl ≤ maxLen := by
  obtain ⟨y0, y1, y2, n, _, hlen, h0, h1, h2⟩ := Deep.trod_struct3 Try.underlying99 h
  have c99 : Try.prog.cellsOf 99 = 3 := by kernel_rfl
  have c5 : Try.prog.cellsOf 5 = 1 := by kernel_rfl
  have c29 : Try.prog.cellsOf 29 = 1 := by kernel_rfl
  rw [c99] at hlen
  obtain ⟨k0, k1, k2, rfl⟩ := list3 hlen
  simp only [c5, c29, List.drop_zero, List.drop_succ_cons, List.take_succ_cons, List.take_zero] at h0 h1 h2
  obtain ⟨z0, e0, _, _⟩ := DataW.trod_int Try.underlying5 h0
  obtain ⟨z1, e1, _, _⟩ := DataW.trod_int Try.underlying5 h1
  obtain ⟨a, l, c, e2, hb, hl⟩ := openBytes h2
  simp only [List.cons.injEq, and_true] at e0 e1 e2
  subst e0 e1 e2
  exact ⟨⟨z0, z1, a, l, c⟩, rfl, hb, hl⟩

theorem openDests {fuel : Nat} {cs : List Value} {x : DataW H × List MemPlace} (h : DataW.trod enc Try.prog W base spare held fuel 25 cs = some x) : ∃ a n c E, cs = [.slice a n c] ∧ destRow W a n E ∧ n ≤ maxLen := by
  rcases Deep.open_slice Try.underlying25 h with ⟨hcs, _⟩ | ⟨a, len, cap, m, n, D, Pl, hcs, _, hl, hm, hmm, _, hel⟩
  · exact ⟨none, 0, 0, fun _ => .zero, hcs, fun i hi => absurd hi (by omega), by decide⟩
  · have hlm : len ≤ m := by rw [hmm]; split <;> omega
    have c3 : Try.prog.cellsOf 68 = 2 := by kernel_rfl
    simp only [c3] at hel
    have each : ∀ i, i < len → ∃ y : DestV, ∃ b off, a = ⟨b, off, none⟩ ∧ b < W.heap.size ∧ destCells W b (off + i * 2) y ∧ byteRow W y.ca y.cl ∧ y.cl ≤ maxLen := fun i hi => by
      obtain ⟨cs', h1, h2⟩ := hel i (by omega)
      obtain ⟨y, rfl, hb, hy⟩ := openDest h2
      obtain ⟨e0, e1⟩ := cells2 h1
      obtain ⟨b, off, spot⟩ := a
      have hspot : spot = none := by
        obtain ⟨cs0, g1, g2⟩ := hel 0 (by omega)
        obtain ⟨y0, rfl, _, _⟩ := openDest g2
        have := World.cell?_spot (cells2 g1).1
        simpa [Addr.add] using this
      subst hspot
      rw [Deep.add_add, add_plain] at e0 e1
      exact ⟨y, b, off, rfl, World.block_lt_of_cell? W _ e0, ⟨e0, e1⟩, hb, hy⟩
    obtain ⟨E, hE⟩ := choose_dest each
    exact ⟨some a, len, cap, E, hcs, fun i hi => by
      obtain ⟨b, off, e, r⟩ := hE i hi
      exact ⟨b, off, by rw [e], r⟩, by omega⟩

theorem openCerts {fuel : Nat} {cs : List Value} {x : DataW H × List MemPlace} (h : DataW.trod enc Try.prog W base spare held fuel 33 cs = some x) : ∃ a n c E, cs = [.slice a n c] ∧ destRow W a n E ∧ n ≤ maxLen := by
  rcases Deep.open_slice Try.underlying33 h with ⟨hcs, _⟩ | ⟨a, len, cap, m, n, D, Pl, hcs, _, hl, hm, hmm, _, hel⟩
  · exact ⟨none, 0, 0, fun _ => .zero, hcs, fun i hi => absurd hi (by omega), by decide⟩
  · have hlm : len ≤ m := by rw [hmm]; split <;> omega
    have c3 : Try.prog.cellsOf 101 = 2 := by kernel_rfl
    simp only [c3] at hel
    have each : ∀ i, i < len → ∃ y : DestV, ∃ b off, a = ⟨b, off, none⟩ ∧ b < W.heap.size ∧ destCells W b (off + i * 2) y ∧ byteRow W y.ca y.cl ∧ y.cl ≤ maxLen := fun i hi => by
      obtain ⟨cs', h1, h2⟩ := hel i (by omega)
      obtain ⟨y, rfl, hb, hy⟩ := openCert h2
      obtain ⟨e0, e1⟩ := cells2 h1
      obtain ⟨b, off, spot⟩ := a
      have hspot : spot = none := by
        obtain ⟨cs0, g1, g2⟩ := hel 0 (by omega)
        obtain ⟨y0, rfl, _, _⟩ := openCert g2
        have := World.cell?_spot (cells2 g1).1
        simpa [Addr.add] using this
      subst hspot
      rw [Deep.add_add, add_plain] at e0 e1
      exact ⟨y, b, off, rfl, World.block_lt_of_cell? W _ e0, ⟨e0, e1⟩, hb, hy⟩
    obtain ⟨E, hE⟩ := choose_dest each
    exact ⟨some a, len, cap, E, hcs, fun i hi => by
      obtain ⟨b, off, e, r⟩ := hE i hi
      exact ⟨b, off, by rw [e], r⟩, by omega⟩

theorem openOpts {fuel : Nat} {cs : List Value} {x : DataW H × List MemPlace} (h : DataW.trod enc Try.prog W base spare held fuel 26 cs = some x) : ∃ a n c E, cs = [.slice a n c] ∧ optRow W a n E ∧ n ≤ maxLen := by
  rcases Deep.open_slice Try.underlying26 h with ⟨hcs, _⟩ | ⟨a, len, cap, m, n, D, Pl, hcs, _, hl, hm, hmm, _, hel⟩
  · exact ⟨none, 0, 0, fun _ => .zero, hcs, fun i hi => absurd hi (by omega), by decide⟩
  · have hlm : len ≤ m := by rw [hmm]; split <;> omega
    have c3 : Try.prog.cellsOf 99 = 3 := by kernel_rfl
    simp only [c3] at hel
    have each : ∀ i, i < len → ∃ y : OptV, ∃ b off, a = ⟨b, off, none⟩ ∧ b < W.heap.size ∧ optCells W b (off + i * 3) y ∧ byteRow W y.ca y.cl ∧ y.cl ≤ maxLen := fun i hi => by
      obtain ⟨cs', h1, h2⟩ := hel i (by omega)
      obtain ⟨y, rfl, hb, hy⟩ := openOpt h2
      obtain ⟨e0, e1, e2⟩ := cells3 h1
      obtain ⟨b, off, spot⟩ := a
      have hspot : spot = none := by
        obtain ⟨cs0, g1, g2⟩ := hel 0 (by omega)
        obtain ⟨y0, rfl, _, _⟩ := openOpt g2
        have := World.cell?_spot (cells3 g1).1
        simpa [Addr.add] using this
      subst hspot
      rw [Deep.add_add, add_plain] at e0 e1 e2
      exact ⟨y, b, off, rfl, World.block_lt_of_cell? W _ e0, ⟨e0, e1, e2⟩, hb, hy⟩
    obtain ⟨E, hE⟩ := choose_opt each
    exact ⟨some a, len, cap, E, hcs, fun i hi => by
      obtain ⟨b, off, e, r⟩ := hE i hi
      exact ⟨b, off, by rw [e], r⟩, by omega⟩

set_option maxRecDepth 100000 in
theorem openHdr {r : Reach} {b0 : Nat} {v : Value} {d : DataW H} {p : List MemPlace} (hok : Value.okWide Try.prog W r b0 28 v) (h : DataW.Trod enc Try.prog W base spare held 28 v d p) : ∃ (i0 i1 i2 i3 i4 i5 i6 : Int) (va da oa : Option Addr) (vl vc dl dc ol oc : Nat) (V D : Nat → DestV) (O : Nat → OptV), v = hdrV i0 i1 i2 i3 i4 i5 i6 va da oa vl vc dl dc ol oc ∧ destRow W va vl V ∧ destRow W da dl D ∧ optRow W oa ol O ∧ vl ≤ maxLen ∧ dl ≤ maxLen ∧ ol ≤ maxLen := by
  obtain ⟨cs, rfl, hsz⟩ := okWide_struct Try.underlying28 hok
  have ccT : Try.prog.cellsOf 28 = 10 := by kernel_rfl
  obtain ⟨q0, q1, q2, q3, q4, q5, q6, q7, q8, q9, rfl⟩ := arr10 (hsz.trans ccT)
  obtain ⟨fuel, hf⟩ := h
  obtain ⟨xs, m, _, _, _, hlen, hfld⟩ := DataW.trod_struct Try.underlying28 hf
  have hlen' : xs.length = 10 := hlen
  have t5 : Try.prog.cellsOf 5 = 1 := by kernel_rfl
  have t22 : Try.prog.cellsOf 22 = 1 := by kernel_rfl
  have t23 : Try.prog.cellsOf 23 = 1 := by kernel_rfl
  have t24 : Try.prog.cellsOf 24 = 1 := by kernel_rfl
  have t25 : Try.prog.cellsOf 25 = 1 := by kernel_rfl
  have t26 : Try.prog.cellsOf 26 = 1 := by kernel_rfl
  have g0 : DataW.trod enc Try.prog W base spare held m 22 (List.take (Try.prog.cellsOf 22) [q0, q1, q2, q3, q4, q5, q6, q7, q8, q9]) = some (xs[0]'(by omega)) := (hfld 0 _ rfl).trans (List.getElem?_eq_getElem (show 0 < xs.length by omega))
  rw [t22] at g0
  have g1 : DataW.trod enc Try.prog W base spare held m 23 (List.take (Try.prog.cellsOf 23) [q1, q2, q3, q4, q5, q6, q7, q8, q9]) = some (xs[1]'(by omega)) := (hfld 1 _ rfl).trans (List.getElem?_eq_getElem (show 1 < xs.length by omega))
  rw [t23] at g1
  have g2 : DataW.trod enc Try.prog W base spare held m 5 (List.take (Try.prog.cellsOf 5) [q2, q3, q4, q5, q6, q7, q8, q9]) = some (xs[2]'(by omega)) := (hfld 2 _ rfl).trans (List.getElem?_eq_getElem (show 2 < xs.length by omega))
  rw [t5] at g2
  have g3 : DataW.trod enc Try.prog W base spare held m 5 (List.take (Try.prog.cellsOf 5) [q3, q4, q5, q6, q7, q8, q9]) = some (xs[3]'(by omega)) := (hfld 3 _ rfl).trans (List.getElem?_eq_getElem (show 3 < xs.length by omega))
  rw [t5] at g3
  have g4 : DataW.trod enc Try.prog W base spare held m 22 (List.take (Try.prog.cellsOf 22) [q4, q5, q6, q7, q8, q9]) = some (xs[4]'(by omega)) := (hfld 4 _ rfl).trans (List.getElem?_eq_getElem (show 4 < xs.length by omega))
  rw [t22] at g4
  have g5 : DataW.trod enc Try.prog W base spare held m 24 (List.take (Try.prog.cellsOf 24) [q5, q6, q7, q8, q9]) = some (xs[5]'(by omega)) := (hfld 5 _ rfl).trans (List.getElem?_eq_getElem (show 5 < xs.length by omega))
  rw [t24] at g5
  have g6 : DataW.trod enc Try.prog W base spare held m 22 (List.take (Try.prog.cellsOf 22) [q6, q7, q8, q9]) = some (xs[6]'(by omega)) := (hfld 6 _ rfl).trans (List.getElem?_eq_getElem (show 6 < xs.length by omega))
  rw [t22] at g6
  have g7 : DataW.trod enc Try.prog W base spare held m 25 (List.take (Try.prog.cellsOf 25) [q7, q8, q9]) = some (xs[7]'(by omega)) := (hfld 7 _ rfl).trans (List.getElem?_eq_getElem (show 7 < xs.length by omega))
  rw [t25] at g7
  have g8 : DataW.trod enc Try.prog W base spare held m 25 (List.take (Try.prog.cellsOf 25) [q8, q9]) = some (xs[8]'(by omega)) := (hfld 8 _ rfl).trans (List.getElem?_eq_getElem (show 8 < xs.length by omega))
  rw [t25] at g8
  have g9 : DataW.trod enc Try.prog W base spare held m 26 (List.take (Try.prog.cellsOf 26) [q9]) = some (xs[9]'(by omega)) := (hfld 9 _ rfl).trans (List.getElem?_eq_getElem (show 9 < xs.length by omega))
  rw [t26] at g9
  obtain ⟨i0, s0, _, _⟩ := DataW.trod_int Try.underlying22 g0
  obtain ⟨i1, s1, _, _⟩ := DataW.trod_int Try.underlying23 g1
  obtain ⟨i2, s2, _, _⟩ := DataW.trod_int Try.underlying5 g2
  obtain ⟨i3, s3, _, _⟩ := DataW.trod_int Try.underlying5 g3
  obtain ⟨i4, s4, _, _⟩ := DataW.trod_int Try.underlying22 g4
  obtain ⟨i5, s5, _, _⟩ := DataW.trod_int Try.underlying24 g5
  obtain ⟨i6, s6, _, _⟩ := DataW.trod_int Try.underlying22 g6
  obtain ⟨va, vl, vc, Ev, s7, rv, hv⟩ := openDests g7
  obtain ⟨da, dl, dc, Ed, s8, rd, hd⟩ := openDests g8
  obtain ⟨oa, ol, oc, Eo, s9, ro, ho⟩ := openOpts g9
  simp only [List.take_succ_cons, List.take_zero, List.cons.injEq, and_true] at s0 s1 s2 s3 s4 s5 s6 s7 s8 s9
  subst s0 s1 s2 s3 s4 s5 s6 s7 s8 s9
  exact ⟨i0, i1, i2, i3, i4, i5, i6, va, da, oa, vl, vc, dl, dc, ol, oc, Ev, Ed, Eo, rfl, rv, rd, ro, hv, hd, ho⟩

set_option maxRecDepth 100000 in
theorem openCon {r : Reach} {b0 : Nat} {v : Value} {d : DataW H} {p : List MemPlace} (hok : Value.okWide Try.prog W r b0 32 v) (h : DataW.Trod enc Try.prog W base spare held 32 v d p) : ∃ (j0 : Int) (ba ea : Option Addr) (bl bc el ec : Nat) (X : Nat → ExtV), v = conV j0 ba ea bl bc el ec ∧ byteRow W ba bl ∧ extRow W ea el X ∧ bl ≤ maxLen ∧ el ≤ maxLen := by
  obtain ⟨cs, rfl, hsz⟩ := okWide_struct Try.underlying32 hok
  have ccT : Try.prog.cellsOf 32 = 3 := by kernel_rfl
  obtain ⟨q0, q1, q2, rfl⟩ := arr3 (hsz.trans ccT)
  obtain ⟨fuel, hf⟩ := h
  obtain ⟨xs, m, _, _, _, hlen, hfld⟩ := DataW.trod_struct Try.underlying32 hf
  have hlen' : xs.length = 3 := hlen
  have t23 : Try.prog.cellsOf 23 = 1 := by kernel_rfl
  have t29 : Try.prog.cellsOf 29 = 1 := by kernel_rfl
  have t30 : Try.prog.cellsOf 30 = 1 := by kernel_rfl
  have g0 : DataW.trod enc Try.prog W base spare held m 23 (List.take (Try.prog.cellsOf 23) [q0, q1, q2]) = some (xs[0]'(by omega)) := (hfld 0 _ rfl).trans (List.getElem?_eq_getElem (show 0 < xs.length by omega))
  rw [t23] at g0
  have g1 : DataW.trod enc Try.prog W base spare held m 29 (List.take (Try.prog.cellsOf 29) [q1, q2]) = some (xs[1]'(by omega)) := (hfld 1 _ rfl).trans (List.getElem?_eq_getElem (show 1 < xs.length by omega))
  rw [t29] at g1
  have g2 : DataW.trod enc Try.prog W base spare held m 30 (List.take (Try.prog.cellsOf 30) [q2]) = some (xs[2]'(by omega)) := (hfld 2 _ rfl).trans (List.getElem?_eq_getElem (show 2 < xs.length by omega))
  rw [t30] at g2
  obtain ⟨j0, s0, _, _⟩ := DataW.trod_int Try.underlying23 g0
  obtain ⟨ba, bl, bc, s1, rb, hb⟩ := openBytes g1
  obtain ⟨ea, el, ec, Ee, s2, re, he⟩ := openExts g2
  simp only [List.take_succ_cons, List.take_zero, List.cons.injEq, and_true] at s0 s1 s2
  subst s0 s1 s2
  exact ⟨j0, ba, ea, bl, bc, el, ec, Ee, rfl, rb, re, hb, he⟩

set_option maxRecDepth 100000 in
theorem openSec {r : Reach} {b0 : Nat} {v : Value} {d : DataW H} {p : List MemPlace} (hok : Value.okWide Try.prog W r b0 35 v) (h : DataW.Trod enc Try.prog W base spare held 35 v d p) : ∃ (k0 k1 k2 : Int) (ca sa ta : Option Addr) (cl cc sl sc tl tc : Nat) (C : Nat → DestV), v = secV k0 k1 k2 ca sa ta cl cc sl sc tl tc ∧ destRow W ca cl C ∧ byteRow W sa sl ∧ byteRow W ta tl ∧ cl ≤ maxLen ∧ sl ≤ maxLen ∧ tl ≤ maxLen := by
  obtain ⟨cs, rfl, hsz⟩ := okWide_struct Try.underlying35 hok
  have ccT : Try.prog.cellsOf 35 = 6 := by kernel_rfl
  obtain ⟨q0, q1, q2, q3, q4, q5, rfl⟩ := arr6 (hsz.trans ccT)
  obtain ⟨fuel, hf⟩ := h
  obtain ⟨xs, m, _, _, _, hlen, hfld⟩ := DataW.trod_struct Try.underlying35 hf
  have hlen' : xs.length = 6 := hlen
  have t5 : Try.prog.cellsOf 5 = 1 := by kernel_rfl
  have t29 : Try.prog.cellsOf 29 = 1 := by kernel_rfl
  have t33 : Try.prog.cellsOf 33 = 1 := by kernel_rfl
  have g0 : DataW.trod enc Try.prog W base spare held m 33 (List.take (Try.prog.cellsOf 33) [q0, q1, q2, q3, q4, q5]) = some (xs[0]'(by omega)) := (hfld 0 _ rfl).trans (List.getElem?_eq_getElem (show 0 < xs.length by omega))
  rw [t33] at g0
  have g1 : DataW.trod enc Try.prog W base spare held m 5 (List.take (Try.prog.cellsOf 5) [q1, q2, q3, q4, q5]) = some (xs[1]'(by omega)) := (hfld 1 _ rfl).trans (List.getElem?_eq_getElem (show 1 < xs.length by omega))
  rw [t5] at g1
  have g2 : DataW.trod enc Try.prog W base spare held m 5 (List.take (Try.prog.cellsOf 5) [q2, q3, q4, q5]) = some (xs[2]'(by omega)) := (hfld 2 _ rfl).trans (List.getElem?_eq_getElem (show 2 < xs.length by omega))
  rw [t5] at g2
  have g3 : DataW.trod enc Try.prog W base spare held m 5 (List.take (Try.prog.cellsOf 5) [q3, q4, q5]) = some (xs[3]'(by omega)) := (hfld 3 _ rfl).trans (List.getElem?_eq_getElem (show 3 < xs.length by omega))
  rw [t5] at g3
  have g4 : DataW.trod enc Try.prog W base spare held m 29 (List.take (Try.prog.cellsOf 29) [q4, q5]) = some (xs[4]'(by omega)) := (hfld 4 _ rfl).trans (List.getElem?_eq_getElem (show 4 < xs.length by omega))
  rw [t29] at g4
  have g5 : DataW.trod enc Try.prog W base spare held m 29 (List.take (Try.prog.cellsOf 29) [q5]) = some (xs[5]'(by omega)) := (hfld 5 _ rfl).trans (List.getElem?_eq_getElem (show 5 < xs.length by omega))
  rw [t29] at g5
  obtain ⟨ca, cl, cc, Ec, s0, rc, hc⟩ := openCerts g0
  obtain ⟨k0, s1, _, _⟩ := DataW.trod_int Try.underlying5 g1
  obtain ⟨k1, s2, _, _⟩ := DataW.trod_int Try.underlying5 g2
  obtain ⟨k2, s3, _, _⟩ := DataW.trod_int Try.underlying5 g3
  obtain ⟨sa, sl, sc, s4, rs, hs⟩ := openBytes g4
  obtain ⟨ta, tl, tc, s5, rt, ht⟩ := openBytes g5
  simp only [List.take_succ_cons, List.take_zero, List.cons.injEq, and_true] at s0 s1 s2 s3 s4 s5
  subst s0 s1 s2 s3 s4 s5
  exact ⟨k0, k1, k2, ca, sa, ta, cl, cc, sl, sc, tl, tc, Ec, rfl, rc, rs, rt, hc, hs, ht⟩

set_option maxRecDepth 100000 in
theorem openE {r : Reach} {b0 : Nat} {v : Value} {d : DataW H} {p : List MemPlace} (hok : Value.okWide Try.prog W r b0 66 v) (h : DataW.Trod enc Try.prog W base spare held 66 v d p) : ∃ (e1 : Int) (e2 : Bool) (xa : Option Addr) (xl xc : Nat), v = .agg #[.int .u16 e1, .bool e2, .slice xa xl xc] ∧ byteRow W xa xl ∧ xl ≤ maxLen := by
  obtain ⟨cs, rfl, hsz⟩ := okWide_struct Try.underlying66 hok
  have ccT : Try.prog.cellsOf 66 = 3 := by kernel_rfl
  obtain ⟨q0, q1, q2, rfl⟩ := arr3 (hsz.trans ccT)
  obtain ⟨fuel, hf⟩ := h
  obtain ⟨xs, m, _, _, _, hlen, hfld⟩ := DataW.trod_struct Try.underlying66 hf
  have hlen' : xs.length = 3 := hlen
  have t4 : Try.prog.cellsOf 4 = 1 := by kernel_rfl
  have t23 : Try.prog.cellsOf 23 = 1 := by kernel_rfl
  have t29 : Try.prog.cellsOf 29 = 1 := by kernel_rfl
  have g0 : DataW.trod enc Try.prog W base spare held m 23 (List.take (Try.prog.cellsOf 23) [q0, q1, q2]) = some (xs[0]'(by omega)) := (hfld 0 _ rfl).trans (List.getElem?_eq_getElem (show 0 < xs.length by omega))
  rw [t23] at g0
  have g1 : DataW.trod enc Try.prog W base spare held m 4 (List.take (Try.prog.cellsOf 4) [q1, q2]) = some (xs[1]'(by omega)) := (hfld 1 _ rfl).trans (List.getElem?_eq_getElem (show 1 < xs.length by omega))
  rw [t4] at g1
  have g2 : DataW.trod enc Try.prog W base spare held m 29 (List.take (Try.prog.cellsOf 29) [q2]) = some (xs[2]'(by omega)) := (hfld 2 _ rfl).trans (List.getElem?_eq_getElem (show 2 < xs.length by omega))
  rw [t29] at g2
  obtain ⟨e1, s0, _, _⟩ := DataW.trod_int Try.underlying23 g0
  obtain ⟨e2, s1, _⟩ := DataW.trod_bool Try.underlying4 g1
  obtain ⟨xa, xl, xc, s2, rx, hx⟩ := openBytes g2
  simp only [List.take_succ_cons, List.take_zero, List.cons.injEq, and_true] at s0 s1 s2
  subst s0 s1 s2
  exact ⟨e1, e2, xa, xl, xc, rfl, rx, hx⟩

set_option maxRecDepth 100000 in
theorem openD {r : Reach} {b0 : Nat} {v : Value} {d : DataW H} {p : List MemPlace} (hok : Value.okWide Try.prog W r b0 68 v) (h : DataW.Trod enc Try.prog W base spare held 68 v d p) : ∃ (d1 : Int) (ga : Option Addr) (gl gc : Nat), v = .agg #[.int .u8 d1, .slice ga gl gc] ∧ byteRow W ga gl ∧ gl ≤ maxLen := by
  obtain ⟨cs, rfl, hsz⟩ := okWide_struct Try.underlying68 hok
  have ccT : Try.prog.cellsOf 68 = 2 := by kernel_rfl
  obtain ⟨q0, q1, rfl⟩ := arr2 (hsz.trans ccT)
  obtain ⟨fuel, hf⟩ := h
  obtain ⟨xs, m, _, _, _, hlen, hfld⟩ := DataW.trod_struct Try.underlying68 hf
  have hlen' : xs.length = 2 := hlen
  have t5 : Try.prog.cellsOf 5 = 1 := by kernel_rfl
  have t29 : Try.prog.cellsOf 29 = 1 := by kernel_rfl
  have g0 : DataW.trod enc Try.prog W base spare held m 5 (List.take (Try.prog.cellsOf 5) [q0, q1]) = some (xs[0]'(by omega)) := (hfld 0 _ rfl).trans (List.getElem?_eq_getElem (show 0 < xs.length by omega))
  rw [t5] at g0
  have g1 : DataW.trod enc Try.prog W base spare held m 29 (List.take (Try.prog.cellsOf 29) [q1]) = some (xs[1]'(by omega)) := (hfld 1 _ rfl).trans (List.getElem?_eq_getElem (show 1 < xs.length by omega))
  rw [t29] at g1
  obtain ⟨d1, s0, _, _⟩ := DataW.trod_int Try.underlying5 g0
  obtain ⟨ga, gl, gc, s1, rg, hg⟩ := openBytes g1
  simp only [List.take_succ_cons, List.take_zero, List.cons.injEq, and_true] at s0 s1
  subst s0 s1
  exact ⟨d1, ga, gl, gc, rfl, rg, hg⟩
end
end Go.Proofs.Qxb6602271a
