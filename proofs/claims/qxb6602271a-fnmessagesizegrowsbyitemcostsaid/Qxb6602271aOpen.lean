import Derived.Test.Qxb6602271aExt
import Derived.ProofKit
import Derived.Deep.Slices
import Derived.Deep.Strs
namespace Go.Proofs.Qxb6602271a
open Go.ChangeShapes Go.WideShapes Go.ChangeAt Go.RowKit

theorem choose_ext' {n : Nat} {p : Nat → ExtV → Prop} (h : ∀ i, i < n → ∃ x, p i x) : ∃ f : Nat → ExtV, ∀ i, i < n → p i (f i) := by
  classical
  refine ⟨fun i => if hi : i < n then Classical.choose (h i hi) else .zero, fun i hi => ?_⟩
  simp only [dif_pos hi]
  exact Classical.choose_spec (h i hi)

theorem list2 {l : List Value} (h : l.length = 2) : ∃ a b, l = [a, b] := by
  match l, h with
  | [a, b], _ => exact ⟨a, b, rfl⟩
theorem list3 {l : List Value} (h : l.length = 3) : ∃ a b c, l = [a, b, c] := by
  match l, h with
  | [a, b, c], _ => exact ⟨a, b, c, rfl⟩

section
variable {H : Type} {enc : TypeId × Value → H} {W : World} {base : Nat} {spare : Nat → Bool} {held : Bool}

theorem openBytes {fuel : Nat} {cs : List Value} {x : DataW H × List MemPlace} (h : DataW.trod enc Try.prog W base spare held fuel 29 cs = some x) : ∃ a l c, cs = [.slice a l c] ∧ byteRow W a l ∧ l ≤ maxLen := by
  rcases open_ints Try.underlying29 Try.underlying5 (by kernel_rfl) h with ⟨hcs, _⟩ | ⟨x, l, c, zs, hcs, _, hl, hm, hz, _, hcell, _⟩
  · exact ⟨none, 0, 0, hcs, fun i hi => absurd hi (by omega), by decide⟩
  · have hlz : l ≤ zs.length := by rw [hz]; split <;> omega
    refine ⟨some x, l, c, hcs, fun i hi => ?_, by omega⟩
    obtain ⟨b, off, spot⟩ := x
    have hc := hcell i (by omega)
    have hspot : spot = none := by simpa [Addr.add] using World.cell?_spot (hcell 0 (by omega))
    subst hspot
    rw [add_plain] at hc
    exact ⟨b, off, rfl, World.block_lt_of_cell? W _ hc, _, hc⟩

theorem cells2 {a : Addr} {v0 v1 : Value} (h : W.cells? base a 2 = some [v0, v1]) : W.cell? (a.add 0) = some v0 ∧ W.cell? (a.add 1) = some v1 := by
  unfold World.cells? at h
  split at h
  · simp only [List.range_succ, List.range_zero, List.nil_append, List.cons_append, List.mapM_cons, List.mapM_nil, Option.bind_eq_bind, Option.bind_eq_some_iff, Option.pure_def, Option.some.injEq] at h
    obtain ⟨u0, e0, _, ⟨u1, e1, _, rfl, rfl⟩, h⟩ := h
    simp only [List.cons.injEq, and_true] at h
    obtain ⟨rfl, rfl⟩ := h
    exact ⟨e0, e1⟩
  · cases h
theorem cells3 {a : Addr} {v0 v1 v2 : Value} (h : W.cells? base a 3 = some [v0, v1, v2]) : W.cell? (a.add 0) = some v0 ∧ W.cell? (a.add 1) = some v1 ∧ W.cell? (a.add 2) = some v2 := by
  unfold World.cells? at h
  split at h
  · simp only [List.range_succ, List.range_zero, List.nil_append, List.cons_append, List.mapM_cons, List.mapM_nil, Option.bind_eq_bind, Option.bind_eq_some_iff, Option.pure_def, Option.some.injEq] at h
    obtain ⟨u0, e0, _, ⟨u1, e1, _, ⟨u2, e2, _, rfl, rfl⟩, rfl⟩, h⟩ := h
    simp only [List.cons.injEq, and_true] at h
    obtain ⟨rfl, rfl, rfl⟩ := h
    exact ⟨e0, e1, e2⟩
  · cases h

theorem openExt {fuel : Nat} {cs : List Value} {x : DataW H × List MemPlace} (h : DataW.trod enc Try.prog W base spare held fuel 66 cs = some x) : ∃ y : ExtV, cs = y.cells ∧ byteRow W y.ca y.cl ∧ y.cl ≤ maxLen := by
  obtain ⟨y0, y1, y2, n, _, hlen, h0, h1, h2⟩ := Deep.trod_struct3 Try.underlying66 h
  have c3 : Try.prog.cellsOf 66 = 3 := by kernel_rfl
  have c23 : Try.prog.cellsOf 23 = 1 := by kernel_rfl
  have c4 : Try.prog.cellsOf 4 = 1 := by kernel_rfl
  have c29 : Try.prog.cellsOf 29 = 1 := by kernel_rfl
  rw [c3] at hlen
  obtain ⟨k0, k1, k2, rfl⟩ := list3 hlen
  simp only [c23, c4, c29, List.drop_zero, List.drop_succ_cons, List.take_succ_cons, List.take_zero] at h0 h1 h2
  obtain ⟨ty, e0, _, _⟩ := DataW.trod_int Try.underlying23 h0
  obtain ⟨cr, e1, _⟩ := DataW.trod_bool Try.underlying4 h1
  obtain ⟨a, l, c, e2, hb, hl⟩ := openBytes h2
  simp only [List.cons.injEq, and_true] at e0 e1 e2
  subst e0 e1 e2
  exact ⟨⟨ty, cr, a, l, c⟩, rfl, hb, hl⟩

theorem openExts {fuel : Nat} {cs : List Value} {x : DataW H × List MemPlace} (h : DataW.trod enc Try.prog W base spare held fuel 30 cs = some x) : ∃ a n c E, cs = [.slice a n c] ∧ extRow W a n E ∧ n ≤ maxLen := by
  rcases Deep.open_slice Try.underlying30 h with ⟨hcs, _⟩ | ⟨a, len, cap, m, n, D, Pl, hcs, _, hl, hm, hmm, _, hel⟩
  · exact ⟨none, 0, 0, fun _ => .zero, hcs, fun i hi => absurd hi (by omega), by decide⟩
  · have hlm : len ≤ m := by rw [hmm]; split <;> omega
    have c3 : Try.prog.cellsOf 66 = 3 := by kernel_rfl
    simp only [c3] at hel
    have each : ∀ i, i < len → ∃ y : ExtV, ∃ b off, a = ⟨b, off, none⟩ ∧ b < W.heap.size ∧ extCells W b (off + i * 3) y ∧ byteRow W y.ca y.cl ∧ y.cl ≤ maxLen := fun i hi => by
      obtain ⟨cs', h1, h2⟩ := hel i (by omega)
      obtain ⟨y, rfl, hb, hy⟩ := openExt h2
      obtain ⟨e0, e1, e2⟩ := cells3 h1
      obtain ⟨b, off, spot⟩ := a
      have hspot : spot = none := by
        obtain ⟨cs0, g1, g2⟩ := hel 0 (by omega)
        obtain ⟨y0, rfl, _, _⟩ := openExt g2
        have := World.cell?_spot (cells3 g1).1
        simpa [Addr.add] using this
      subst hspot
      rw [Deep.add_add, add_plain] at e0 e1 e2
      exact ⟨y, b, off, rfl, World.block_lt_of_cell? W _ e0, ⟨e0, e1, e2⟩, hb, hy⟩
    obtain ⟨E, hE⟩ := choose_ext' each
    exact ⟨some a, len, cap, E, hcs, fun i hi => by
      obtain ⟨b, off, e, r⟩ := hE i hi
      exact ⟨b, off, by rw [e], r⟩, by omega⟩
end
end Go.Proofs.Qxb6602271a
