import Derived.Test.Qxb6602271aMsgB
import Derived.Test.Qxb6602271aMsgS
namespace Go.Proofs.Qxb6602271a
open Go.RowKit

/-- A message at block B that size() answers 'tot' for. -/
def sizeReady (w : World) (B tot : Nat) : Prop :=
  ∃ (va da oa ba ea ca sa ta : Option Addr) (vl vc dl dc ol oc bl bc el ec cl cc sl sc tl tc : Nat) (V D C : Nat → DestV) (O : Nat → OptV) (X : Nat → ExtV), B < w.heap.size ∧ msgCells va da oa ba ea ca sa ta vl vc dl dc ol oc bl bc el ec cl cc sl sc tl tc w B ∧
    destRow w va vl V ∧ destRow w da dl D ∧ optRow w oa ol O ∧ extRow w ea el X ∧ destRow w ca cl C ∧ (vl ≤ 65537 ∧ dl ≤ 65537 ∧ ol ≤ 65537 ∧ el ≤ 65537 ∧ cl ≤ 65537 ∧ bl ≤ 1048576 ∧ sl ≤ 1048576 ∧ tl ≤ 1048576) ∧
    ((∀ i, i < vl → (V i).cl ≤ 1048576) ∧ (∀ i, i < dl → (D i).cl ≤ 1048576) ∧ (∀ i, i < ol → (O i).cl ≤ 1048576) ∧ (∀ i, i < el → (X i).cl ≤ 1048576) ∧ (∀ i, i < cl → (C i).cl ≤ 1048576)) ∧
    tot = total bl sl tl vl dl ol el cl (fun i => (V i).cl) (fun i => (D i).cl) (fun i => (O i).cl) (fun i => (X i).cl) (fun i => (C i).cl)

theorem msgCells.below {va da oa ba ea ca sa ta : Option Addr} {vl vc dl dc ol oc bl bc el ec cl cc sl sc tl tc : Nat} {w w' : World} {B N : Nat} (h : msgCells va da oa ba ea ca sa ta vl vc dl dc ol oc bl bc el ec cl cc sl sc tl tc w B) (hb : Below N w w') (hN : B < N) : msgCells va da oa ba ea ca sa ta vl vc dl dc ol oc bl bc el ec cl cc sl sc tl tc w' B := by
  obtain ⟨h1, h2, h3, h4, h5, h6, h7, h8⟩ := h
  exact ⟨(hb.cell (p := ⟨B, 7, none⟩) hN).trans h1, (hb.cell (p := ⟨B, 8, none⟩) hN).trans h2, (hb.cell (p := ⟨B, 9, none⟩) hN).trans h3, (hb.cell (p := ⟨B, 11, none⟩) hN).trans h4, (hb.cell (p := ⟨B, 12, none⟩) hN).trans h5, (hb.cell (p := ⟨B, 13, none⟩) hN).trans h6, (hb.cell (p := ⟨B, 17, none⟩) hN).trans h7, (hb.cell (p := ⟨B, 18, none⟩) hN).trans h8⟩

theorem sizeReady.below {w w' : World} {B tot N : Nat} (h : sizeReady w B tot) (hb : Below N w w') (hN : w.heap.size ≤ N) : sizeReady w' B tot := by
  obtain ⟨va, da, oa, ba, ea, ca, sa, ta, vl, vc, dl, dc, ol, oc, bl, bc, el, ec, cl, cc, sl, sc, tl, tc, V, D, C, O, X, hB, hc, r1, r2, r3, r4, r5, h1, h2, h3⟩ := h
  exact ⟨va, da, oa, ba, ea, ca, sa, ta, vl, vc, dl, dc, ol, oc, bl, bc, el, ec, cl, cc, sl, sc, tl, tc, V, D, C, O, X, Nat.lt_of_lt_of_le hB hb.size, hc.below hb (Nat.lt_of_lt_of_le hB hN), r1.below hb hN, r2.below hb hN, r3.below hb hN, r4.below hb hN, r5.below hb hN, h1, h2, h3⟩

theorem zzSize_any (B tot : Nat) (w : World) (h : sizeReady w B tot) : Calls Try.prog 22 #[.pointer (some ⟨B, 0, none⟩)] w fun e w' => e = .returned (.int .i64 (tot : Int)) ∧ Below w.heap.size w w' := by
  obtain ⟨va, da, oa, ba, ea, ca, sa, ta, vl, vc, dl, dc, ol, oc, bl, bc, el, ec, cl, cc, sl, sc, tl, tc, V, D, C, O, X, hB, hc, r1, r2, r3, r4, r5, ⟨n1, n2, n3, n4, n5, n6, n7, n8⟩, ⟨l1, l2, l3, l4, l5⟩, htot⟩ := h
  have Htot : Hid _ := htot
  clear htot
  go_enter Try.func22, Try.ntmps22
  go_wp2_with fail
  refine (size_any va da oa ba ea ca sa ta vl vc dl dc ol oc bl bc el ec cl cc sl sc tl tc V D C O X B w hB hc r1 r2 r3 r4 r5 n1 n2 n3 n4 n5 n6 n7 n8 l1 l2 l3 l4 l5).mono ?_
  rintro e w1 ⟨rfl, hb⟩
  rw [← Htot.out]
  go_wp2
  go_ret
  exact ⟨rfl, hb⟩

/-! ### The law's five variables -/
def boxes (N : Nat) (w : World) (H C S E D : Array Value) : Prop :=
  w.heap[N]? = some (.cells H 28 (0, 0)) ∧ w.heap[N + 1]? = some (.cells C 32 (0, 0)) ∧ w.heap[N + 2]? = some (.cells S 35 (0, 0)) ∧ w.heap[N + 3]? = some (.cells E 66 (0, 0)) ∧ w.heap[N + 4]? = some (.cells D 68 (0, 0))
theorem boxes_init (w : World) (H C S E D : Array Value) : boxes w.heap.size (((((w.alloc (.cells H 28)).alloc (.cells C 32)).alloc (.cells S 35)).alloc (.cells E 66)).alloc (.cells D 68)) H C S E D := by
  refine ⟨?_, ?_, ?_, ?_, ?_⟩
  · show (((((w.heap.push _).push _).push _).push _).push _)[w.heap.size]? = _
    simp only [Array.getElem?_push, Array.size_push]
    rw [if_neg (by omega), if_neg (by omega), if_neg (by omega), if_neg (by omega), if_pos trivial]
  · show (((((w.heap.push _).push _).push _).push _).push _)[w.heap.size + 1]? = _
    simp only [Array.getElem?_push, Array.size_push]
    rw [if_neg (by omega), if_neg (by omega), if_neg (by omega), if_pos trivial]
  · show (((((w.heap.push _).push _).push _).push _).push _)[w.heap.size + 2]? = _
    simp only [Array.getElem?_push, Array.size_push]
    rw [if_neg (by omega), if_neg (by omega), if_pos trivial]
  · show (((((w.heap.push _).push _).push _).push _).push _)[w.heap.size + 3]? = _
    simp only [Array.getElem?_push, Array.size_push]
    rw [if_neg (by omega), if_pos trivial]
  · show (((((w.heap.push _).push _).push _).push _).push _)[w.heap.size + 4]? = _
    simp only [Array.getElem?_push, Array.size_push]
    rw [if_pos trivial]
section
variable {N : Nat} {w : World} {H C S E D : Array Value}
theorem boxes.size (h : boxes N w H C S E D) : N + 4 < w.heap.size := (Array.getElem?_eq_some_iff.1 h.2.2.2.2).1
theorem boxes.cells (h : boxes N w H C S E D) : (∀ j, w.cell? ⟨N, j, none⟩ = H[j]?) ∧ (∀ j, w.cell? ⟨N + 1, j, none⟩ = C[j]?) ∧ (∀ j, w.cell? ⟨N + 2, j, none⟩ = S[j]?) ∧ (∀ j, w.cell? ⟨N + 3, j, none⟩ = E[j]?) ∧ (∀ j, w.cell? ⟨N + 4, j, none⟩ = D[j]?) :=
  ⟨fun j => cell_of_row _ _ j _ _ (0, 0) h.1, fun j => cell_of_row _ _ j _ _ (0, 0) h.2.1, fun j => cell_of_row _ _ j _ _ (0, 0) h.2.2.1, fun j => cell_of_row _ _ j _ _ (0, 0) h.2.2.2.1, fun j => cell_of_row _ _ j _ _ (0, 0) h.2.2.2.2⟩
theorem free_of_block {w : World} {g : Nat} {c : Array Value} {t : TypeId} (h : w.heap[g]? = some (.cells c t (0, 0))) (j : Nat) : w.frozen? ⟨g, j, none⟩ = false := by simp [World.frozen?, h]
theorem boxes.free (h : boxes N w H C S E D) : (∀ j, w.frozen? ⟨N, j, none⟩ = false) ∧ (∀ j, w.frozen? ⟨N + 1, j, none⟩ = false) ∧ (∀ j, w.frozen? ⟨N + 2, j, none⟩ = false) ∧ (∀ j, w.frozen? ⟨N + 3, j, none⟩ = false) ∧ (∀ j, w.frozen? ⟨N + 4, j, none⟩ = false) :=
  ⟨free_of_block h.1, free_of_block h.2.1, free_of_block h.2.2.1, free_of_block h.2.2.2.1, free_of_block h.2.2.2.2⟩
theorem boxes.below {w' : World} {B : Nat} (h : boxes N w H C S E D) (hb : Below B w w') (hB : N + 4 < B) : boxes N w' H C S E D :=
  ⟨(hb.block _ (by omega)).trans h.1, (hb.block _ (by omega)).trans h.2.1, (hb.block _ (by omega)).trans h.2.2.1, (hb.block _ (by omega)).trans h.2.2.2.1, (hb.block _ (by omega)).trans h.2.2.2.2⟩
theorem boxes.drew (h : boxes N w H C S E D) : boxes N w.drew H C S E D := h
end

theorem heap_setCells_other {b : Nat} : ∀ (vs : List Value) {w : World} (o : Nat) {k : Nat}, k ≠ b → (w.setCells b o vs).heap[k]? = w.heap[k]?
  | [], _, _, _, _ => rfl
  | v :: r, w, o, k, h => by
    rw [World.setCells, heap_setCells_other r (o + 1) h]
    exact Below.heap_setCell _ _ _ _ h
theorem heap_setCells_same {b : Nat} {T : TypeId} : ∀ (vs : List Value) {w : World} (o : Nat) {pre post : List Value}, pre.length = o → post.length = vs.length → w.heap[b]? = some (.cells (pre ++ post).toArray T (0, 0)) → (w.setCells b o vs).heap[b]? = some (.cells (pre ++ vs).toArray T (0, 0))
  | [], w, o, pre, post, h1, h2, h3 => by
    have : post = [] := List.length_eq_zero_iff.1 h2
    subst this
    exact h3
  | v :: r, w, o, pre, post, h1, h2, h3 => by
    match post, h2 with
    | p :: q, h2 =>
      rw [World.setCells]
      have e : (w.setCell ⟨b, o, none⟩ v).heap[b]? = some (.cells ((pre ++ [v]) ++ q).toArray T (0, 0)) := by
        simp only [World.setCell, Array.getElem?_modify, if_true, h3, Option.map_some]
        congr 2
        apply Array.ext'
        simp only [Option.isSome_none, Bool.false_eq_true, if_false, Array.toList_setIfInBounds]
        rw [← h1, List.set_append_right _ _ (Nat.le_refl _), Nat.sub_self]
        simp
      have := heap_setCells_same r (o + 1) (pre := pre ++ [v]) (post := q) (by simp [h1]) (by simpa using h2) e
      simpa using this
theorem store_block {b : Nat} {T : TypeId} {w : World} {cur : Array Value} (vs : List Value) (h : w.heap[b]? = some (.cells cur T (0, 0))) (hl : cur.size = vs.length) : (w.setCells b 0 vs).heap[b]? = some (.cells vs.toArray T (0, 0)) := by
  have := heap_setCells_same (b := b) (T := T) vs (w := w) 0 (pre := []) (post := cur.toList) rfl (by simpa using hl) (by simpa using h)
  simpa using this
section
variable {N : Nat} {w : World} {H C S E D : Array Value}
theorem boxes.setH (h : boxes N w H C S E D) (vs : List Value) (hl : H.size = vs.length) : boxes N (w.setCells N 0 vs) vs.toArray C S E D :=
  ⟨store_block vs h.1 hl, (heap_setCells_other vs 0 (by omega)).trans h.2.1, (heap_setCells_other vs 0 (by omega)).trans h.2.2.1, (heap_setCells_other vs 0 (by omega)).trans h.2.2.2.1, (heap_setCells_other vs 0 (by omega)).trans h.2.2.2.2⟩
theorem boxes.setC (h : boxes N w H C S E D) (vs : List Value) (hl : C.size = vs.length) : boxes N (w.setCells (N + 1) 0 vs) H vs.toArray S E D :=
  ⟨(heap_setCells_other vs 0 (by omega)).trans h.1, store_block vs h.2.1 hl, (heap_setCells_other vs 0 (by omega)).trans h.2.2.1, (heap_setCells_other vs 0 (by omega)).trans h.2.2.2.1, (heap_setCells_other vs 0 (by omega)).trans h.2.2.2.2⟩
theorem boxes.setS (h : boxes N w H C S E D) (vs : List Value) (hl : S.size = vs.length) : boxes N (w.setCells (N + 2) 0 vs) H C vs.toArray E D :=
  ⟨(heap_setCells_other vs 0 (by omega)).trans h.1, (heap_setCells_other vs 0 (by omega)).trans h.2.1, store_block vs h.2.2.1 hl, (heap_setCells_other vs 0 (by omega)).trans h.2.2.2.1, (heap_setCells_other vs 0 (by omega)).trans h.2.2.2.2⟩
theorem boxes.setE (h : boxes N w H C S E D) (vs : List Value) (hl : E.size = vs.length) : boxes N (w.setCells (N + 3) 0 vs) H C S vs.toArray D :=
  ⟨(heap_setCells_other vs 0 (by omega)).trans h.1, (heap_setCells_other vs 0 (by omega)).trans h.2.1, (heap_setCells_other vs 0 (by omega)).trans h.2.2.1, store_block vs h.2.2.2.1 hl, (heap_setCells_other vs 0 (by omega)).trans h.2.2.2.2⟩
theorem boxes.setD (h : boxes N w H C S E D) (vs : List Value) (hl : D.size = vs.length) : boxes N (w.setCells (N + 4) 0 vs) H C S E vs.toArray :=
  ⟨(heap_setCells_other vs 0 (by omega)).trans h.1, (heap_setCells_other vs 0 (by omega)).trans h.2.1, (heap_setCells_other vs 0 (by omega)).trans h.2.2.1, (heap_setCells_other vs 0 (by omega)).trans h.2.2.2.1, store_block vs h.2.2.2.2 hl⟩
end
end Go.Proofs.Qxb6602271a
