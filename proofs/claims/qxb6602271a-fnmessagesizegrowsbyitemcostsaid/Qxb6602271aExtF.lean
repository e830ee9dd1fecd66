import Derived.Test.Qxb6602271aExtB
namespace Go.Proofs.Qxb6602271a
open Go.RowKit

/-- A row all of whose blocks lie from C on. -/
def extRowF (C : Nat) (w : World) (a : Option Addr) (n : Nat) (E : Nat → ExtV) : Prop :=
  ∀ i, i < n → ∃ b off, a = some ⟨b, off, none⟩ ∧ C ≤ b ∧ b < w.heap.size ∧ extCells w b (off + i * 3) (E i) ∧ freshRow C w (E i).ca (E i).cl ∧ (E i).cl ≤ 1048576
theorem extRowF.row {C : Nat} {w : World} {a : Option Addr} {n : Nat} {E : Nat → ExtV} (h : extRowF C w a n E) : extRow w a n E := fun i hi => by
  obtain ⟨b, off, e, _, hg, hc, hf, hl⟩ := h i hi
  exact ⟨b, off, e, hg, hc, hf.bytes, by unfold maxLen; omega⟩
theorem extRowF.len {C : Nat} {w : World} {a : Option Addr} {n : Nat} {E : Nat → ExtV} (h : extRowF C w a n E) : ∀ i, i < n → (E i).cl ≤ 1048576 := fun i hi => by
  obtain ⟨_, _, _, _, _, _, _, hl⟩ := h i hi
  exact hl
theorem extCells.other {w : World} {b b' o o' : Nat} {x : ExtV} {vs : List Value} (h : extCells w b o x) (hne : b ≠ b') : extCells (w.setCells b' o' vs) b o x := by
  refine ⟨?_, ?_, ?_⟩
  · rw [World.cell?_setCells_out b' vs o' w ⟨b, o, none⟩ (fun h _ => by simp at h; omega)]; exact h.1
  · rw [World.cell?_setCells_out b' vs o' w ⟨b, o + 1, none⟩ (fun h _ => by simp at h; omega)]; exact h.2.1
  · rw [World.cell?_setCells_out b' vs o' w ⟨b, o + 2, none⟩ (fun h _ => by simp at h; omega)]; exact h.2.2
theorem extRowF.setCells {C b' o' : Nat} {w : World} {a : Option Addr} {n : Nat} {E : Nat → ExtV} {vs : List Value} (h : extRowF C w a n E) (hb : b' < C) : extRowF C (w.setCells b' o' vs) a n E := fun i hi => by
  obtain ⟨b, off, e, hC, hg, hc, hf, hl⟩ := h i hi
  have hs := (below_setCells vs (b := b') o' (Below.refl b' w) (Nat.le_refl _)).size
  exact ⟨b, off, e, hC, by omega, hc.other (by omega), hf.setCells hb, hl⟩
theorem extRowF.below {C B : Nat} {w w' : World} {a : Option Addr} {n : Nat} {E : Nat → ExtV} (h : extRowF C w a n E) (hb : Below B w w') (hB : w.heap.size ≤ B) : extRowF C w' a n E := fun i hi => by
  obtain ⟨b, off, e, hC, hg, hc, hf, hl⟩ := h i hi
  exact ⟨b, off, e, hC, Nat.lt_of_lt_of_le hg hb.size, hc.below hb (Nat.lt_of_lt_of_le hg hB), hf.below hb hB, hl⟩
theorem extRowF.mono {C C' : Nat} {w : World} {a : Option Addr} {n : Nat} {E : Nat → ExtV} (h : extRowF C w a n E) (hC : C' ≤ C) : extRowF C' w a n E := fun i hi => by
  obtain ⟨b, off, e, h1, hg, hc, hf, hl⟩ := h i hi
  exact ⟨b, off, e, Nat.le_trans hC h1, hg, hc, hf.mono hC, hl⟩

set_option maxHeartbeats 4000000 in
set_option maxRecDepth 100000 in
theorem copyExtsF_any (a : Option Addr) (n cap : Nat) (E : Nat → ExtV) (w : World) (hr : extRow w a n E) (hn : n ≤ 65536) (hl : ∀ i, i < n → (E i).cl ≤ 1048576) :
    Calls Try.prog 34 #[.slice a n cap] w fun e w' => ∃ oa c', e = .returned (.slice oa n c') ∧ (∃ E', extRowF w.heap.size w' oa n E') ∧ Below w.heap.size w w' := by
  have kn := fun wx => Lib.run_eql_slice_nil (P := Try.prog) wx 30 66 a n cap 0 0 Try.underlying30
  obtain ⟨i0, hi, hz0, hz1, hz2⟩ := info_parts info66
  cases a with
  | none =>
    obtain rfl := hr.zero
    go_enter Try.func34, Try.ntmps34
    go_wp2
    go_ret
    exact ⟨none, 0, rfl, ⟨fun _ => .zero, fun i hi => absurd hi (by omega)⟩, Below.refl _ _⟩
  | some ad =>
    go_enter Try.func34, Try.ntmps34
    go_wp2_with (at_make; refine wpList_make_full _ rfl _ _ 30 rfl w.heap.size 66 i0 (.agg #[.int .u16 0, .bool false, .slice none 0 0]) 3 Try.underlying30 hi hz0 hz1 _ _ _ _ n rfl rfl rfl rfl ?b2 ?b3 (Nat.le_refl _) ?_)
    case b2 => rw [hz2]; omega
    case b3 => unfold maxLen; omega
    intro w1 hown hg
    have hbel : Below w.heap.size w w1 := (Below.refl _ _).grown hg (Nat.le_refl _) (fun _ h => by cases h)
    have hout : outRow w1 w.heap.size 66 3 n := ⟨_, hown⟩
    have hsz : w.heap.size < w1.heap.size := by
      rcases hown.2 with ⟨h, _⟩ | ⟨g, _, _, h, _, hh, _⟩
      · simp at h
      · simp only [Value.slice.injEq, Option.some.injEq, Addr.mk.injEq] at h
        obtain ⟨⟨rfl, _⟩, _⟩ := h
        exact (Array.getElem?_eq_some_iff.1 hh).1
    clear hown hg kn hi hz0 hz1 hz2
    go_wp2
    go_loopw [4] (fun i wr => ∃ k : Nat, k ≤ n ∧ i = .int .i64 k ∧ outRow wr w.heap.size 66 3 n ∧ extDone wr w.heap.size k ∧ Below w.heap.size w wr ∧ w.heap.size < wr.heap.size) (fun i _ => n - (intOf i).toNat)
    case atStart => exact ⟨0, by omega, rfl, hout, fun i hi => absurd hi (by omega), hbel, hsz⟩
    case round =>
      clear hout hbel hsz
      obtain ⟨k, hk, rfl, hout, hdone, hbel, hsz⟩ := hrel
      by_cases hlt : k < n
      · obtain ⟨b, off, he, hbl, hc, hby, _⟩ := hr k hlt
        obtain rfl : ad = ⟨b, off, none⟩ := by simpa using he
        obtain ⟨c0, c1, c2⟩ := hc.below hbel hbl
        have hby' := hby.below hbel (Nat.le_refl _)
        have hlk := hl k hlt
        generalize E k = x at *
        obtain ⟨x1, x2, x3, x4, x5⟩ := x
        simp only at c0 c1 c2 hby' hlk
        have i1 : (k : Int) < (n : Int) := by omega
        have i2 : (0 : Int) ≤ (k : Int) := by omega
        have n1 : ¬ b = w.heap.size := by omega
        have n2 : ¬ w.heap.size = b := by omega
        clear he hc hby hr hl
        go_wp2_with fail
        refine (copyExt_any x1 x2 x3 x4 x5 _ hby' hlk).mono ?_
        rintro e w2 ⟨oa, c', rfl, hf, hb2⟩
        have ho2 := hout.below hb2 hsz
        obtain ⟨v0, hv0⟩ := ho2.cell (j := k * 3) (by omega)
        obtain ⟨v1, hv1⟩ := ho2.cell (j := k * 3 + 1) (by omega)
        obtain ⟨v2, hv2⟩ := ho2.cell (j := k * 3 + 2) (by omega)
        have f0 := ho2.frozen (k * 3)
        have f1 := ho2.frozen (k * 3 + 1)
        have f2 := ho2.frozen (k * 3 + 2)
        have hst := hdone.step (x := ⟨x1, x2, oa, x4, c'⟩) hout hlt hb2 (Nat.le_refl _) hsz hlk (hf.mono hsz)
        have hbs := below_setCells (ExtV.cells ⟨x1, x2, oa, x4, c'⟩) (b := w.heap.size) (k * 3) (hbel.trans (hb2.mono (Nat.le_of_lt hsz))) (Nat.le_refl _)
        have hss : w.heap.size < (w2.setCells w.heap.size (k * 3) (ExtV.cells ⟨x1, x2, oa, x4, c'⟩)).heap.size := by
          have h1 := (below_setCells (ExtV.cells ⟨x1, x2, oa, x4, c'⟩) (b := w.heap.size) (k * 3) (Below.refl w.heap.size w2) (Nat.le_refl _)).size
          have h2 := hb2.size
          omega
        clear hout hdone hbel hf hb2 ho2 c0 c1 c2 hby'
        go_wp2
        go_roundw
        case rel => exact ⟨k + 1, by omega, by go_num, hst.2, hst.1, hbs, hss⟩
        case measure => simp [intOf]; omega
      · obtain rfl : k = n := by omega
        go_wp2
        go_ret
        refine ⟨_, _, rfl, ?_, hbel⟩
        obtain ⟨E', hE⟩ := choose_ext hdone
        refine ⟨E', fun i hi => ?_⟩
        obtain ⟨h1, h2, h3⟩ := hE i hi
        exact ⟨w.heap.size, 0, rfl, Nat.le_refl _, hsz, by rw [Nat.zero_add]; exact h1, h3.mono (by omega), h2⟩
end Go.Proofs.Qxb6602271a
