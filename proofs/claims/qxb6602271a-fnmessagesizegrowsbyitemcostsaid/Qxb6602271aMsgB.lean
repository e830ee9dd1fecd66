import Derived.Test.Qxb6602271aMsgC
import Derived.Deep.DrawnRows
namespace Go.Proofs.Qxb6602271a
open Go.RowKit
attribute [local go_sem ↓] Go.wp_at_zero Go.wp_at_succ

theorem box3 (w : World) (a b c : Array Value) (t1 t2 t3 : TypeId) : (∀ j, (((w.alloc (.cells a t1)).alloc (.cells b t2)).alloc (.cells c t3)).drew.cell? ⟨w.heap.size, j, none⟩ = a[j]?) ∧ (∀ j, (((w.alloc (.cells a t1)).alloc (.cells b t2)).alloc (.cells c t3)).drew.cell? ⟨w.heap.size + 1, j, none⟩ = b[j]?) ∧ (∀ j, (((w.alloc (.cells a t1)).alloc (.cells b t2)).alloc (.cells c t3)).drew.cell? ⟨w.heap.size + 2, j, none⟩ = c[j]?) := by
  have b1 : (((w.alloc (.cells a t1)).alloc (.cells b t2)).alloc (.cells c t3)).heap[w.heap.size]? = some (.cells a t1 (0, 0)) := by
    show (((w.heap.push _).push _).push _)[w.heap.size]? = _
    simp only [Array.getElem?_push, Array.size_push]
    rw [if_neg (by omega), if_neg (by omega), if_pos trivial]
  have b2 : (((w.alloc (.cells a t1)).alloc (.cells b t2)).alloc (.cells c t3)).heap[w.heap.size + 1]? = some (.cells b t2 (0, 0)) := by
    show (((w.heap.push _).push _).push _)[w.heap.size + 1]? = _
    simp only [Array.getElem?_push, Array.size_push]
    rw [if_neg (by omega), if_pos trivial]
  have b3 : (((w.alloc (.cells a t1)).alloc (.cells b t2)).alloc (.cells c t3)).heap[w.heap.size + 2]? = some (.cells c t3 (0, 0)) := by
    show (((w.heap.push _).push _).push _)[w.heap.size + 2]? = _
    simp only [Array.getElem?_push, Array.size_push]
    rw [if_pos trivial]
  refine ⟨fun j => ?_, fun j => ?_, fun j => ?_⟩
  · rw [World.cell?_drew]; exact cell_of_row _ _ j _ _ (0, 0) b1
  · rw [World.cell?_drew]; exact cell_of_row _ _ j _ _ (0, 0) b2
  · rw [World.cell?_drew]; exact cell_of_row _ _ j _ _ (0, 0) b3

theorem alloc_keep {w : World} {o : Obj} {N : Nat} {a : Array Value} (h : ∀ j, w.cell? ⟨N, j, none⟩ = a[j]?) (hN : N < w.heap.size) : ∀ j, (w.alloc o).cell? ⟨N, j, none⟩ = a[j]? := fun j => (((Below.refl w.heap.size w).alloc (Nat.le_refl _) o).cell (p := ⟨N, j, none⟩) hN).trans (h j)

section
variable (i0 i1 i2 i3 i4 i5 i6 j0 k0 k1 k2 : Int) (va da oa ba ea ca sa ta : Option Addr) (vl vc dl dc ol oc bl bc el ec cl cc sl sc tl tc : Nat)
set_option maxHeartbeats 32000000 in
set_option maxRecDepth 100000 in
theorem build_any (V D C : Nat → DestV) (O : Nat → OptV) (X : Nat → ExtV) (w : World) (rV : destRow w va vl V) (rD : destRow w da dl D) (rO : optRow w oa ol O) (rX : extRow w ea el X) (rC : destRow w ca cl C)
    (hnv : vl ≤ 65536) (hnd : dl ≤ 65536) (hno : ol ≤ 65536) (hne : el ≤ 65536) (hnc : cl ≤ 65536) :
    Calls Try.prog 16 #[hdrV i0 i1 i2 i3 i4 i5 i6 va da oa vl vc dl dc ol oc, conV j0 ba ea bl bc el ec, secV k0 k1 k2 ca sa ta cl cc sl sc tl tc] w fun e w' =>
      ∃ B va' vc' da' dc' oa' oc' ea' ec' ca' cc', e = .returned (.pointer (some ⟨B, 0, none⟩)) ∧ w.heap.size ≤ B ∧ w'.heap[B]? = some (.cells #[.int .u32 i0, .int .u16 i1, .int .u8 i2, .int .u8 i3, .int .u32 i4, .int .u64 i5, .int .u32 i6, .slice va' vl vc', .slice da' dl dc', .slice oa' ol oc', .int .u16 j0, .slice ba bl bc, .slice ea' el ec', .slice ca' cl cc', .int .u8 k0, .int .u8 k1, .int .u8 k2, .slice sa sl sc, .slice ta tl tc] 58 (0, 0)) ∧
        (∃ u, u.heap.size = B ∧ Below B u w' ∧ destRow u va' vl V ∧ destRow u da' dl D ∧ optRow u oa' ol O ∧ extRow u ea' el X ∧ destRow u ca' cl C) ∧ Below w.heap.size w w' := by
  unfold hdrV conV secV
  go_enter Try.func16, Try.ntmps16
  go_wp2
  go_region_held3 (fun w' => (∀ j, w'.cell? ⟨w.heap.size, j, none⟩ = #[.int .u32 i0, .int .u16 i1, .int .u8 i2, .int .u8 i3, .int .u32 i4, .int .u64 i5, .int .u32 i6, .slice va vl vc, .slice da dl dc, .slice oa ol oc][j]?) ∧ (∀ j, w'.cell? ⟨w.heap.size + 1, j, none⟩ = #[.int .u16 j0, .slice ba bl bc, .slice ea el ec][j]?) ∧ (∀ j, w'.cell? ⟨w.heap.size + 2, j, none⟩ = #[.slice ca cl cc, .int .u8 k0, .int .u8 k1, .int .u8 k2, .slice sa sl sc, .slice ta tl tc][j]?)) (first | exact box3 _ _ _ _ _ _ _ | exact ⟨X1, Y1, Z1⟩ | exact ⟨X2, Y2, Z2⟩ | exact ⟨X3, Y3, Z3⟩ | exact ⟨X4, Y4, Z4⟩ | exact ⟨X5, Y5, Z5⟩ | exact ⟨alloc_keep X5 (by omega), alloc_keep Y5 (by omega), alloc_keep Z5 (by omega)⟩)
    (first
      | (go_at_call_of 46 va; refine (toDests_any va vl vc V _ (rV.below (B := w.heap.size) ((below3 _ _ _ _).drew) (Nat.le_refl _)) hnv).mono ?_; rintro e w1 ⟨va', vc', rfl, rowv, b1⟩; have U1 : w.heap.size + 2 < w1.heap.size := Nat.lt_of_lt_of_le (show w.heap.size + 2 < _ by simp) b1.size; have T1 : Below w.heap.size w w1 := step_below ((below3 _ _ _ _).drew) b1 (Nat.le_of_lt (Nat.lt_of_le_of_lt (by omega) (show w.heap.size + 2 < _ by simp))); have X1 : ∀ j, w1.cell? ⟨w.heap.size, j, none⟩ = #[.int .u32 i0, .int .u16 i1, .int .u8 i2, .int .u8 i3, .int .u32 i4, .int .u64 i5, .int .u32 i6, .slice va vl vc, .slice da dl dc, .slice oa ol oc][j]? := fun j => ((below_cells b1 (N := w.heap.size) (Nat.lt_of_le_of_lt (by omega) (show w.heap.size + 2 < _ by simp))).1 j).trans ((box3 _ _ _ _ _ _ _).1 j); have Y1 : ∀ j, w1.cell? ⟨w.heap.size + 1, j, none⟩ = #[.int .u16 j0, .slice ba bl bc, .slice ea el ec][j]? := fun j => ((below_cells b1 (N := w.heap.size + 1) (Nat.lt_of_le_of_lt (by omega) (show w.heap.size + 2 < _ by simp))).1 j).trans ((box3 _ _ _ _ _ _ _).2.1 j); have Z1 : ∀ j, w1.cell? ⟨w.heap.size + 2, j, none⟩ = #[.slice ca cl cc, .int .u8 k0, .int .u8 k1, .int .u8 k2, .slice sa sl sc, .slice ta tl tc][j]? := fun j => ((below_cells b1 (N := w.heap.size + 2) (Nat.lt_of_le_of_lt (by omega) (show w.heap.size + 2 < _ by simp))).1 j).trans ((box3 _ _ _ _ _ _ _).2.2 j))
      | (go_at_call_of 46 da; refine (toDests_any da dl dc D _ (rD.below (B := w.heap.size) (T1) (Nat.le_refl _)) hnd).mono ?_; rintro e w2 ⟨da', dc', rfl, rowd, b2⟩; have U2 : w.heap.size + 2 < w2.heap.size := Nat.lt_of_lt_of_le U1 b2.size; have T2 : Below w.heap.size w w2 := step_below (T1) b2 (Nat.le_of_lt (Nat.lt_of_le_of_lt (by omega) U1)); have X2 : ∀ j, w2.cell? ⟨w.heap.size, j, none⟩ = #[.int .u32 i0, .int .u16 i1, .int .u8 i2, .int .u8 i3, .int .u32 i4, .int .u64 i5, .int .u32 i6, .slice va vl vc, .slice da dl dc, .slice oa ol oc][j]? := fun j => ((below_cells b2 (N := w.heap.size) (Nat.lt_of_le_of_lt (by omega) U1)).1 j).trans (X1 j); have Y2 : ∀ j, w2.cell? ⟨w.heap.size + 1, j, none⟩ = #[.int .u16 j0, .slice ba bl bc, .slice ea el ec][j]? := fun j => ((below_cells b2 (N := w.heap.size + 1) (Nat.lt_of_le_of_lt (by omega) U1)).1 j).trans (Y1 j); have Z2 : ∀ j, w2.cell? ⟨w.heap.size + 2, j, none⟩ = #[.slice ca cl cc, .int .u8 k0, .int .u8 k1, .int .u8 k2, .slice sa sl sc, .slice ta tl tc][j]? := fun j => ((below_cells b2 (N := w.heap.size + 2) (Nat.lt_of_le_of_lt (by omega) U1)).1 j).trans (Z1 j))
      | (go_at_call_of 47 oa; refine (toOpts_any oa ol oc O _ (rO.below (B := w.heap.size) (T2) (Nat.le_refl _)) hno).mono ?_; rintro e w3 ⟨oa', oc', rfl, rowo, b3⟩; have U3 : w.heap.size + 2 < w3.heap.size := Nat.lt_of_lt_of_le U2 b3.size; have T3 : Below w.heap.size w w3 := step_below (T2) b3 (Nat.le_of_lt (Nat.lt_of_le_of_lt (by omega) U2)); have X3 : ∀ j, w3.cell? ⟨w.heap.size, j, none⟩ = #[.int .u32 i0, .int .u16 i1, .int .u8 i2, .int .u8 i3, .int .u32 i4, .int .u64 i5, .int .u32 i6, .slice va vl vc, .slice da dl dc, .slice oa ol oc][j]? := fun j => ((below_cells b3 (N := w.heap.size) (Nat.lt_of_le_of_lt (by omega) U2)).1 j).trans (X2 j); have Y3 : ∀ j, w3.cell? ⟨w.heap.size + 1, j, none⟩ = #[.int .u16 j0, .slice ba bl bc, .slice ea el ec][j]? := fun j => ((below_cells b3 (N := w.heap.size + 1) (Nat.lt_of_le_of_lt (by omega) U2)).1 j).trans (Y2 j); have Z3 : ∀ j, w3.cell? ⟨w.heap.size + 2, j, none⟩ = #[.slice ca cl cc, .int .u8 k0, .int .u8 k1, .int .u8 k2, .slice sa sl sc, .slice ta tl tc][j]? := fun j => ((below_cells b3 (N := w.heap.size + 2) (Nat.lt_of_le_of_lt (by omega) U2)).1 j).trans (Z2 j))
      | (go_at_call_of 35 ea; refine (toExts_any ea el ec X _ (rX.below (B := w.heap.size) (T3) (Nat.le_refl _)) hne).mono ?_; rintro e w4 ⟨ea', ec', rfl, rowe, b4⟩; have U4 : w.heap.size + 2 < w4.heap.size := Nat.lt_of_lt_of_le U3 b4.size; have T4 : Below w.heap.size w w4 := step_below (T3) b4 (Nat.le_of_lt (Nat.lt_of_le_of_lt (by omega) U3)); have X4 : ∀ j, w4.cell? ⟨w.heap.size, j, none⟩ = #[.int .u32 i0, .int .u16 i1, .int .u8 i2, .int .u8 i3, .int .u32 i4, .int .u64 i5, .int .u32 i6, .slice va vl vc, .slice da dl dc, .slice oa ol oc][j]? := fun j => ((below_cells b4 (N := w.heap.size) (Nat.lt_of_le_of_lt (by omega) U3)).1 j).trans (X3 j); have Y4 : ∀ j, w4.cell? ⟨w.heap.size + 1, j, none⟩ = #[.int .u16 j0, .slice ba bl bc, .slice ea el ec][j]? := fun j => ((below_cells b4 (N := w.heap.size + 1) (Nat.lt_of_le_of_lt (by omega) U3)).1 j).trans (Y3 j); have Z4 : ∀ j, w4.cell? ⟨w.heap.size + 2, j, none⟩ = #[.slice ca cl cc, .int .u8 k0, .int .u8 k1, .int .u8 k2, .slice sa sl sc, .slice ta tl tc][j]? := fun j => ((below_cells b4 (N := w.heap.size + 2) (Nat.lt_of_le_of_lt (by omega) U3)).1 j).trans (Z3 j))
      | (go_at_call_of 48 ca; refine (toCerts_any ca cl cc C _ (rC.below (B := w.heap.size) (T4) (Nat.le_refl _)) hnc).mono ?_; rintro e w5 ⟨ca', cc', rfl, rowc, b5⟩; have U5 : w.heap.size + 2 < w5.heap.size := Nat.lt_of_lt_of_le U4 b5.size; have T5 : Below w.heap.size w w5 := step_below (T4) b5 (Nat.le_of_lt (Nat.lt_of_le_of_lt (by omega) U4)); have X5 : ∀ j, w5.cell? ⟨w.heap.size, j, none⟩ = #[.int .u32 i0, .int .u16 i1, .int .u8 i2, .int .u8 i3, .int .u32 i4, .int .u64 i5, .int .u32 i6, .slice va vl vc, .slice da dl dc, .slice oa ol oc][j]? := fun j => ((below_cells b5 (N := w.heap.size) (Nat.lt_of_le_of_lt (by omega) U4)).1 j).trans (X4 j); have Y5 : ∀ j, w5.cell? ⟨w.heap.size + 1, j, none⟩ = #[.int .u16 j0, .slice ba bl bc, .slice ea el ec][j]? := fun j => ((below_cells b5 (N := w.heap.size + 1) (Nat.lt_of_le_of_lt (by omega) U4)).1 j).trans (Y4 j); have Z5 : ∀ j, w5.cell? ⟨w.heap.size + 2, j, none⟩ = #[.slice ca cl cc, .int .u8 k0, .int .u8 k1, .int .u8 k2, .slice sa sl sc, .slice ta tl tc][j]? := fun j => ((below_cells b5 (N := w.heap.size + 2) (Nat.lt_of_le_of_lt (by omega) U4)).1 j).trans (Z4 j)))
  go_wp2
  go_ret
  have rowv := (((rowv.below b2 (Nat.le_refl _)).below b3 (Nat.le_refl _)).below b4 (Nat.le_refl _)).below b5 (Nat.le_refl _)
  have rowd := ((rowd.below b3 (Nat.le_refl _)).below b4 (Nat.le_refl _)).below b5 (Nat.le_refl _)
  have rowo := (rowo.below b4 (Nat.le_refl _)).below b5 (Nat.le_refl _)
  have rowe := rowe.below b5 (Nat.le_refl _)
  exact ⟨w5.heap.size, va', vc', da', dc', oa', oc', ea', ec', ca', cc', rfl, T5.size, heap_alloc_new w5 _, ⟨w5, rfl, (Below.refl _ _).alloc (Nat.le_refl _) _, rowv, rowd, rowo, rowe, rowc⟩, T5.alloc T5.size _⟩
end
end Go.Proofs.Qxb6602271a
