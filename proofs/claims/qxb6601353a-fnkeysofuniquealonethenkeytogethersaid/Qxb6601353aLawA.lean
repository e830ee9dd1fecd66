import Derived.Test.Qxb6601353aKeysB
import Derived.Deep.CutRange
namespace Go.Proofs.Qxb6601353a
open Go.RowKit

/-- Bools that can be read, by their values. -/
def boolRow (w : World) (a : Option Addr) (len : Nat) (f : Nat → Bool) : Prop :=
  ∀ i, i < len → ∃ b off, a = some ⟨b, off, none⟩ ∧ b < w.heap.size ∧ w.cell? ⟨b, off + i, none⟩ = some (.bool (f i))
theorem boolRow.below {w w' : World} {a : Option Addr} {len B : Nat} {f : Nat → Bool} (h : boolRow w a len f) (hb : Below B w w') (hB : w.heap.size ≤ B) : boolRow w' a len f := fun i hi => by
  obtain ⟨b, off, e, hg, hc⟩ := h i hi
  exact ⟨b, off, e, Nat.lt_of_lt_of_le hg hb.size, by rw [hb.cell (p := ⟨b, off + i, none⟩) (Nat.lt_of_lt_of_le hg hB)]; exact hc⟩
theorem bools_of {w : World} {a : Option Addr} {len : Nat} (h : rowOf isB w a len) : ∃ f, boolRow w a len f := by
  classical
  refine ⟨fun i => if hi : w.cell? ((a.getD ⟨0, 0, none⟩).add i) = some (.bool true) then true else false, fun i hi => ?_⟩
  obtain ⟨b, off, v, rfl, hg, hc, x, rfl⟩ := h i hi
  refine ⟨b, off, rfl, hg, ?_⟩
  have e : ((some (⟨b, off, none⟩ : Addr)).getD ⟨0, 0, none⟩).add i = ⟨b, off + i, none⟩ := by
    simp [Addr.add]
  simp only [e]
  cases x
  · rw [hc]; simp
  · rw [hc]; simp

/-! ### A row that the call itself makes: n elements of s cells of type T at the head of block B; whatever they hold -/
def outRow (w : World) (B : Nat) (T : TypeId) (s n : Nat) : Prop := ∃ xs, w.ownsRow B T s (.slice (some ⟨B, 0, none⟩) n n) n xs
theorem outRow.cell {w : World} {B T s n j : Nat} (h : outRow w B T s n) (hj : j < n * s) : ∃ v, w.cell? ⟨B, j, none⟩ = some v := by
  obtain ⟨xs, h⟩ := h
  have hl := h.1
  rw [h.cellAt j hj]
  exact ⟨_, List.getElem?_eq_getElem (by omega)⟩
theorem outRow.frozen {w : World} {B T s n : Nat} (h : outRow w B T s n) (j : Nat) : w.frozen? ⟨B, j, none⟩ = false := by
  obtain ⟨xs, h⟩ := h
  exact h.frozenAt j
theorem outRow.stored {w : World} {B T s n : Nat} (h : outRow w B T s n) (j : Nat) (u : Value) : outRow (w.setCell ⟨B, j, none⟩ u) B T s n := by
  obtain ⟨xs, h⟩ := h
  exact ⟨_, (h.stored j u).1⟩
theorem outRow.storeds {B T s n : Nat} : ∀ (vs : List Value) {w : World} (j : Nat), outRow w B T s n → outRow (w.setCells B j vs) B T s n
  | [], _, _, h => h
  | v :: r, _, j, h => outRow.storeds r (j + 1) (outRow.stored h j v)
theorem below_setCells {B : Nat} {a : World} : ∀ (vs : List Value) {w : World} {b : Nat} (o : Nat), Below B a w → B ≤ b → Below B a (w.setCells b o vs)
  | [], _, _, _, h, _ => h
  | v :: r, _, _, o, h, hb => below_setCells r (o + 1) (h.setCell (p := ⟨_, o, none⟩) hb v) hb

/-- The first k columns stand, with these marks. -/
def colDone (w : World) (B k : Nat) (fU fK : Nat → Bool) : Prop := ∀ i, i < k → ∃ x : ColV, colCells w B (i * 5) x ∧ x.uq = fU i ∧ x.ky = fK i
theorem colCells.setCells_in {w : World} {B T s n o : Nat} {x : ColV} (h : outRow w B T s n) (ho : o + 5 ≤ n * s) : colCells (w.setCells B o x.cells) B o x := by
  have hin := World.cell?_setCells_in B x.cells o w (fun j hj => by
    obtain ⟨v, hv⟩ := h.cell (j := o + j) (by simp [ColV.cells] at hj; omega)
    rw [hv]; rfl)
  exact ⟨hin 0 (by simp [ColV.cells]), hin 1 (by simp [ColV.cells]), hin 2 (by simp [ColV.cells]), hin 3 (by simp [ColV.cells]), hin 4 (by simp [ColV.cells])⟩
theorem colCells.setCells_out {w : World} {B o o' : Nat} {x : ColV} {vs : List Value} (h : colCells w B o x) (ho : o + 5 ≤ o') : colCells (w.setCells B o' vs) B o x := by
  refine ⟨?_, ?_, ?_, ?_, ?_⟩
  · rw [World.cell?_setCells_out B vs o' w ⟨B, o, none⟩ (fun _ _ => .inl (by simp; omega))]; exact h.1
  · rw [World.cell?_setCells_out B vs o' w ⟨B, o + 1, none⟩ (fun _ _ => .inl (by simp; omega))]; exact h.2.1
  · rw [World.cell?_setCells_out B vs o' w ⟨B, o + 2, none⟩ (fun _ _ => .inl (by simp; omega))]; exact h.2.2.1
  · rw [World.cell?_setCells_out B vs o' w ⟨B, o + 3, none⟩ (fun _ _ => .inl (by simp; omega))]; exact h.2.2.2.1
  · rw [World.cell?_setCells_out B vs o' w ⟨B, o + 4, none⟩ (fun _ _ => .inl (by simp; omega))]; exact h.2.2.2.2
theorem colDone.step {w : World} {B k n T : Nat} {fU fK : Nat → Bool} {x : ColV} (h : colDone w B k fU fK) (ho : outRow w B T 5 n) (hk : k < n) (h1 : x.uq = fU k) (h2 : x.ky = fK k) :
    colDone (w.setCells B (k * 5) x.cells) B (k + 1) fU fK := fun i hi => by
  by_cases hik : i = k
  · subst hik
    exact ⟨x, colCells.setCells_in ho (by omega), h1, h2⟩
  · obtain ⟨y, hy, e1, e2⟩ := h i (by omega)
    exact ⟨y, hy.setCells_out (by omega), e1, e2⟩
theorem choose_col {n : Nat} {p : Nat → ColV → Prop} (h : ∀ i, i < n → ∃ x, p i x) : ∃ f : Nat → ColV, ∀ i, i < n → p i (f i) := by
  classical
  refine ⟨fun i => if hi : i < n then Classical.choose (h i hi) else .zero, fun i hi => ?_⟩
  simp only [dif_pos hi]
  exact Classical.choose_spec (h i hi)

/-- Columns with these marks. -/
def colsIs (w : World) (a : Option Addr) (n : Nat) (fU fK : Nat → Bool) : Prop := ∃ E, colRow w a n E ∧ ∀ i, i < n → (E i).uq = fU i ∧ (E i).ky = fK i
theorem colDone.cols {w : World} {B n : Nat} {fU fK : Nat → Bool} (h : colDone w B n fU fK) (hB : B < w.heap.size) : colsIs w (some ⟨B, 0, none⟩) n fU fK := by
  obtain ⟨E, hE⟩ := choose_col h
  exact ⟨E, fun i hi => ⟨B, rfl, hB, (hE i hi).1⟩, fun i hi => (hE i hi).2⟩
theorem places_congr {f g : Nat → Bool} {n : Nat} (h : ∀ i, i < n → f i = g i) : placesTo f n = placesTo g n :=
  List.filter_congr fun i hi => h i (List.mem_range.1 hi)
theorem keys_f (a : Option Addr) (n cap : Nat) (fU fK : Nat → Bool) (w : World) (hr : colsIs w a n fU fK) (hn : n ≤ 65536) :
    Calls Try.prog 9 #[.slice a n cap] w fun e w' => ∃ ka kc, e = .returned (.slice ka ((placesTo fU n).length + lastLen (placesTo fK n)) kc) ∧
      (placesTo fU n = [] → placesTo fK n = [] → ka = none) ∧ keyRow w' ka (placesTo fU n) ∧ lastRow w' ka (placesTo fU n).length (placesTo fK n) ∧ Below w.heap.size w w' := by
  obtain ⟨E, h1, h2⟩ := hr
  have e1 : placesTo (fun i => (E i).uq) n = placesTo fU n := places_congr fun i hi => (h2 i hi).1
  have e2 : placesTo (fun i => (E i).ky) n = placesTo fK n := places_congr fun i hi => (h2 i hi).2
  have := zzKeysOf_any a n cap E w h1 hn
  rw [e1, e2] at this
  exact this

/-! ### Plain: the places -/
theorem mem_places {f : Nat → Bool} {n i : Nat} : i ∈ placesTo f n ↔ i < n ∧ f i = true := by simp [placesTo]
theorem places_sorted (f : Nat → Bool) (n : Nat) : (placesTo f n).Pairwise (· < ·) := List.pairwise_lt_range.filter _
/-- The place before the k-th; -1 ahead of the first. -/
def prevI (L : List Nat) : Nat → Int
  | 0 => -1
  | k + 1 => ((L.getD k 0 : Nat) : Int)
theorem places_at {f : Nat → Bool} {n k : Nat} (hk : k < (placesTo f n).length) : (placesTo f n).getD k 0 < n ∧ f ((placesTo f n).getD k 0) = true ∧ prevI (placesTo f n) k < (((placesTo f n).getD k 0 : Nat) : Int) := by
  have hm := List.getElem_mem hk
  rw [mem_places] at hm
  have e : (placesTo f n).getD k 0 = (placesTo f n)[k] := by simp [List.getD, hk]
  refine ⟨by rw [e]; exact hm.1, by rw [e]; exact hm.2, ?_⟩
  cases k with
  | zero => simp only [prevI]; omega
  | succ k =>
    have := (List.pairwise_iff_getElem.1 (places_sorted f n)) k (k + 1) (by omega) hk (by omega)
    have e' : (placesTo f n).getD k 0 = (placesTo f n)[k]'(by omega) := by simp [List.getD, show k < (placesTo f n).length by omega]
    simp only [prevI]
    rw [e, e']
    exact Int.ofNat_lt.2 this
theorem places_len_yes {f : Nat → Bool} {k : Nat} (h : f k = true) : (placesTo f (k + 1)).length = (placesTo f k).length + 1 := by simp [placesTo_yes h]
theorem places_len_no {f : Nat → Bool} {k : Nat} (h : f k = false) : (placesTo f (k + 1)).length = (placesTo f k).length := by simp [placesTo_no h]
theorem info29 : (Try.prog.info? 29).map (fun i => (i.zero, i.size, i.bytes)) = some (some (.agg #[.string ⟨#[]⟩, .bool false, .bool false, .bool false, .string ⟨#[]⟩]), 5, 40) := by kernel_rfl
end Go.Proofs.Qxb6601353a
